/- Contracts and plain laws, several texts in one. -/
import Derived.Test.YtgdbeiadlgkedaaDoorMDecode5
set_option linter.unusedVariables false
set_option linter.unusedSimpArgs false
namespace Go.Proofs.YtgdbeiadlgkedaaDoor.PFnEncode
open Go.RowKit Go.Proofs.YtgdbeiadlgkedaaDoorW.PrintWords Go.Proofs.YtgdbeiadlgkedaaDoorW.PrintLast Go.Proofs.YtgdbeiadlgkedaaDoorW.PrintMore
theorem ifo {α : Type} [BEq α] [LawfulBEq α] [DecidableEq α] {a b : α} {X : Result Next} {B : Bool} {w' : World} (h : X = Result.ok (Next.value (.bool B)) w') : (if a = b then X else Result.ok (Next.value (.bool true)) w') = Result.ok (Next.value (.bool (!(a == b) || B))) w' := by
  subst h; by_cases e : a = b <;> simp [e]
theorem ifl {α : Type} [BEq α] [LawfulBEq α] [DecidableEq α] {a b : α} {w' : World} : (if a = b then Result.ok (Next.value (.bool false)) w' else Result.ok (Next.value (.bool true)) w') = Result.ok (Next.value (.bool (!(a == b)))) w' := by
  by_cases e : a = b <;> simp [e]
def spec_CodPaneIs.f (a0_0 : Int) (a0_1 : Bool) (a0_2 : Bool) (a0_3 : Int) (a0_4 : Int) : Option (Bool) := if a0_0 ≥ 0 then (if a0_0 ≤ 3 then (if a0_0 = 0 then (if a0_4 = (-1) then (some true) else (if a0_3 = 0 then (some (a0_4 == 0)) else (some false))) else (some true)) else (some false)) else (some false)
set_option maxHeartbeats 8000000 in
set_option maxRecDepth 100000 in
theorem spec_CodPaneIs.calls (a0_0 : Int) (a0_1 : Bool) (a0_2 : Bool) (a0_3 : Int) (a0_4 : Int) (r : Bool) (w : World) (h : spec_CodPaneIs.f a0_0 a0_1 a0_2 a0_3 a0_4 = some r) :
    Calls Tryd.prog 101 #[.agg #[.int .i64 a0_0, .bool a0_1, .bool a0_2, .int .i64 a0_3, .int .i64 a0_4]] w fun e w' => e = .returned (.bool r) ∧ Below w.heap.size w w' := by
  have hu35 := Tryd.underlying35
  have HB := Aside0.mk (Below.refl w.heap.size w)
  have H : (if a0_0 ≥ 0 then (if a0_0 ≤ 3 then (if a0_0 = 0 then (if a0_4 = (-1) then (some true) else (if a0_3 = 0 then (some (a0_4 == 0)) else (some false))) else (some true)) else (some false)) else (some false)) = some r := h
  clear h
  by_cases c2 : a0_0 ≥ 0
  · rw [if_pos c2] at H
    have c2b0 : decide (0 ≤ a0_0) = true := decide_eq_true c2
    clear c2
    by_cases c3 : a0_0 ≤ 3
    · rw [if_pos c3] at H
      have c3b0 : decide (a0_0 ≤ 3) = true := decide_eq_true c3
      clear c3
      by_cases c4 : a0_0 = 0
      · rw [if_pos c4] at H
        have c4b0 : (a0_0 == 0) = true := beq_iff_eq.mpr c4
        have c4b1 : (a0_0 != 0) = false := bne_eq_false_iff_eq.mpr c4
        clear c4
        by_cases c5 : a0_4 = (-1)
        · rw [if_pos c5] at H
          have c5b0 : (a0_4 == (-1)) = true := beq_iff_eq.mpr c5
          have c5b1 : (a0_4 != (-1)) = false := bne_eq_false_iff_eq.mpr c5
          clear c5
          obtain rfl := Option.some.inj H
          go_enter Tryd.func101, Tryd.ntmps101
          go_wp2_with (first | ((with_reducible refine gate_dst (N := 1) rfl ?_); refine box_event ?hg (N := 1) ?hd (cs := #[.int .i64 a0_0, .bool a0_1, .bool a0_2, .int .i64 a0_3, .int .i64 a0_4]) (t := 35) ?hr ?_; (case hd => rfl); (case hg => rfl); (case hr => first | (go_simp; done) | (go_simp; rfl)); intro gb132 hg w6 hbox hb; have n0_ := Aside0.mk (below_step (by repeat (first | (with_reducible first | exact HB.out | apply below_alloc | apply pw_below_drewN | apply below_drew1) | exact HB.out)) hb); have n1_ := Aside0.mk (hbox); have n2_ := Aside0.mk ((by rw [hg]; exact (below_size (by repeat (first | (with_reducible first | exact HB.out | apply below_alloc | apply pw_below_drewN | apply below_drew1) | exact HB.out))) : w.heap.size ≤ gb132)); have n3_ := Aside0.mk ((by rw [hg]; exact (below_size (by repeat (first | (with_reducible first | exact HB.out | apply below_alloc | apply pw_below_drewN | apply below_drew1) | exact HB.out))) : w.heap.size ≤ gb132)); clear HB; have HB := n0_; have BK132 := n1_; have GW132 := n2_; have GE132 := n3_; clear n0_ n1_ n2_ n3_; clear hb hbox hg; have hcz7_0 : w6.cell? ⟨gb132, 0, none⟩ = some (.int .i64 a0_0) := (blk_cell BK132.out 0).trans rfl; have hcz7_1 : w6.cell? ⟨gb132, 1, none⟩ = some (.bool a0_1) := (blk_cell BK132.out 1).trans rfl; have hcz7_2 : w6.cell? ⟨gb132, 2, none⟩ = some (.bool a0_2) := (blk_cell BK132.out 2).trans rfl; have hcz7_3 : w6.cell? ⟨gb132, 3, none⟩ = some (.int .i64 a0_3) := (blk_cell BK132.out 3).trans rfl; have hcz7_4 : w6.cell? ⟨gb132, 4, none⟩ = some (.int .i64 a0_4) := (blk_cell BK132.out 4).trans rfl; have hfz7_0 := blk_frozen BK132.out 0; have hfz7_1 := blk_frozen BK132.out 1; have hfz7_2 := blk_frozen BK132.out 2; have hfz7_3 := blk_frozen BK132.out 3; have hfz7_4 := blk_frozen BK132.out 4))
          go_ret
          exact ⟨by first | rfl | (simp [errW_none, errW_some] <;> rfl) | (simp [*, errW_none, errW_some] <;> rfl), by repeat (first | (with_reducible first | exact HB.out | apply below_alloc | apply pw_below_drewN | apply below_drew1 | refine below_set ?_ GE132.out) | exact HB.out)⟩
        · rw [if_neg c5] at H
          have c5b0 : (a0_4 == (-1)) = false := beq_eq_false_iff_ne.mpr c5
          have c5b1 : (a0_4 != (-1)) = true := bne_iff_ne.mpr c5
          by_cases c8 : a0_3 = 0
          · rw [if_pos c8] at H
            have c8b0 : (a0_3 == 0) = true := beq_iff_eq.mpr c8
            have c8b1 : (a0_3 != 0) = false := bne_eq_false_iff_eq.mpr c8
            clear c8
            obtain rfl := Option.some.inj H
            go_enter Tryd.func101, Tryd.ntmps101
            go_wp2_with (first | ((with_reducible refine gate_dst (N := 1) rfl ?_); refine box_event ?hg (N := 1) ?hd (cs := #[.int .i64 a0_0, .bool a0_1, .bool a0_2, .int .i64 a0_3, .int .i64 a0_4]) (t := 35) ?hr ?_; (case hd => rfl); (case hg => rfl); (case hr => first | (go_simp; done) | (go_simp; rfl)); intro gb132 hg w9 hbox hb; have n0_ := Aside0.mk (below_step (by repeat (first | (with_reducible first | exact HB.out | apply below_alloc | apply pw_below_drewN | apply below_drew1) | exact HB.out)) hb); have n1_ := Aside0.mk (hbox); have n2_ := Aside0.mk ((by rw [hg]; exact (below_size (by repeat (first | (with_reducible first | exact HB.out | apply below_alloc | apply pw_below_drewN | apply below_drew1) | exact HB.out))) : w.heap.size ≤ gb132)); have n3_ := Aside0.mk ((by rw [hg]; exact (below_size (by repeat (first | (with_reducible first | exact HB.out | apply below_alloc | apply pw_below_drewN | apply below_drew1) | exact HB.out))) : w.heap.size ≤ gb132)); clear HB; have HB := n0_; have BK132 := n1_; have GW132 := n2_; have GE132 := n3_; clear n0_ n1_ n2_ n3_; clear hb hbox hg; have hcz10_0 : w9.cell? ⟨gb132, 0, none⟩ = some (.int .i64 a0_0) := (blk_cell BK132.out 0).trans rfl; have hcz10_1 : w9.cell? ⟨gb132, 1, none⟩ = some (.bool a0_1) := (blk_cell BK132.out 1).trans rfl; have hcz10_2 : w9.cell? ⟨gb132, 2, none⟩ = some (.bool a0_2) := (blk_cell BK132.out 2).trans rfl; have hcz10_3 : w9.cell? ⟨gb132, 3, none⟩ = some (.int .i64 a0_3) := (blk_cell BK132.out 3).trans rfl; have hcz10_4 : w9.cell? ⟨gb132, 4, none⟩ = some (.int .i64 a0_4) := (blk_cell BK132.out 4).trans rfl; have hfz10_0 := blk_frozen BK132.out 0; have hfz10_1 := blk_frozen BK132.out 1; have hfz10_2 := blk_frozen BK132.out 2; have hfz10_3 := blk_frozen BK132.out 3; have hfz10_4 := blk_frozen BK132.out 4))
            go_ret
            exact ⟨by first | rfl | (simp [errW_none, errW_some] <;> rfl) | (simp [*, errW_none, errW_some] <;> rfl), by repeat (first | (with_reducible first | exact HB.out | apply below_alloc | apply pw_below_drewN | apply below_drew1 | refine below_set ?_ GE132.out) | exact HB.out)⟩
          · rw [if_neg c8] at H
            have c8b0 : (a0_3 == 0) = false := beq_eq_false_iff_ne.mpr c8
            have c8b1 : (a0_3 != 0) = true := bne_iff_ne.mpr c8
            obtain rfl := Option.some.inj H
            go_enter Tryd.func101, Tryd.ntmps101
            go_wp2_with (first | ((with_reducible refine gate_dst (N := 1) rfl ?_); refine box_event ?hg (N := 1) ?hd (cs := #[.int .i64 a0_0, .bool a0_1, .bool a0_2, .int .i64 a0_3, .int .i64 a0_4]) (t := 35) ?hr ?_; (case hd => rfl); (case hg => rfl); (case hr => first | (go_simp; done) | (go_simp; rfl)); intro gb132 hg w11 hbox hb; have n0_ := Aside0.mk (below_step (by repeat (first | (with_reducible first | exact HB.out | apply below_alloc | apply pw_below_drewN | apply below_drew1) | exact HB.out)) hb); have n1_ := Aside0.mk (hbox); have n2_ := Aside0.mk ((by rw [hg]; exact (below_size (by repeat (first | (with_reducible first | exact HB.out | apply below_alloc | apply pw_below_drewN | apply below_drew1) | exact HB.out))) : w.heap.size ≤ gb132)); have n3_ := Aside0.mk ((by rw [hg]; exact (below_size (by repeat (first | (with_reducible first | exact HB.out | apply below_alloc | apply pw_below_drewN | apply below_drew1) | exact HB.out))) : w.heap.size ≤ gb132)); clear HB; have HB := n0_; have BK132 := n1_; have GW132 := n2_; have GE132 := n3_; clear n0_ n1_ n2_ n3_; clear hb hbox hg; have hcz12_0 : w11.cell? ⟨gb132, 0, none⟩ = some (.int .i64 a0_0) := (blk_cell BK132.out 0).trans rfl; have hcz12_1 : w11.cell? ⟨gb132, 1, none⟩ = some (.bool a0_1) := (blk_cell BK132.out 1).trans rfl; have hcz12_2 : w11.cell? ⟨gb132, 2, none⟩ = some (.bool a0_2) := (blk_cell BK132.out 2).trans rfl; have hcz12_3 : w11.cell? ⟨gb132, 3, none⟩ = some (.int .i64 a0_3) := (blk_cell BK132.out 3).trans rfl; have hcz12_4 : w11.cell? ⟨gb132, 4, none⟩ = some (.int .i64 a0_4) := (blk_cell BK132.out 4).trans rfl; have hfz12_0 := blk_frozen BK132.out 0; have hfz12_1 := blk_frozen BK132.out 1; have hfz12_2 := blk_frozen BK132.out 2; have hfz12_3 := blk_frozen BK132.out 3; have hfz12_4 := blk_frozen BK132.out 4))
            go_ret
            exact ⟨by first | rfl | (simp [errW_none, errW_some] <;> rfl) | (simp [*, errW_none, errW_some] <;> rfl), by repeat (first | (with_reducible first | exact HB.out | apply below_alloc | apply pw_below_drewN | apply below_drew1 | refine below_set ?_ GE132.out) | exact HB.out)⟩
      · rw [if_neg c4] at H
        have c4b0 : (a0_0 == 0) = false := beq_eq_false_iff_ne.mpr c4
        have c4b1 : (a0_0 != 0) = true := bne_iff_ne.mpr c4
        obtain rfl := Option.some.inj H
        go_enter Tryd.func101, Tryd.ntmps101
        go_wp2_with (first | ((with_reducible refine gate_dst (N := 1) rfl ?_); refine box_event ?hg (N := 1) ?hd (cs := #[.int .i64 a0_0, .bool a0_1, .bool a0_2, .int .i64 a0_3, .int .i64 a0_4]) (t := 35) ?hr ?_; (case hd => rfl); (case hg => rfl); (case hr => first | (go_simp; done) | (go_simp; rfl)); intro gb132 hg w13 hbox hb; have n0_ := Aside0.mk (below_step (by repeat (first | (with_reducible first | exact HB.out | apply below_alloc | apply pw_below_drewN | apply below_drew1) | exact HB.out)) hb); have n1_ := Aside0.mk (hbox); have n2_ := Aside0.mk ((by rw [hg]; exact (below_size (by repeat (first | (with_reducible first | exact HB.out | apply below_alloc | apply pw_below_drewN | apply below_drew1) | exact HB.out))) : w.heap.size ≤ gb132)); have n3_ := Aside0.mk ((by rw [hg]; exact (below_size (by repeat (first | (with_reducible first | exact HB.out | apply below_alloc | apply pw_below_drewN | apply below_drew1) | exact HB.out))) : w.heap.size ≤ gb132)); clear HB; have HB := n0_; have BK132 := n1_; have GW132 := n2_; have GE132 := n3_; clear n0_ n1_ n2_ n3_; clear hb hbox hg; have hcz14_0 : w13.cell? ⟨gb132, 0, none⟩ = some (.int .i64 a0_0) := (blk_cell BK132.out 0).trans rfl; have hcz14_1 : w13.cell? ⟨gb132, 1, none⟩ = some (.bool a0_1) := (blk_cell BK132.out 1).trans rfl; have hcz14_2 : w13.cell? ⟨gb132, 2, none⟩ = some (.bool a0_2) := (blk_cell BK132.out 2).trans rfl; have hcz14_3 : w13.cell? ⟨gb132, 3, none⟩ = some (.int .i64 a0_3) := (blk_cell BK132.out 3).trans rfl; have hcz14_4 : w13.cell? ⟨gb132, 4, none⟩ = some (.int .i64 a0_4) := (blk_cell BK132.out 4).trans rfl; have hfz14_0 := blk_frozen BK132.out 0; have hfz14_1 := blk_frozen BK132.out 1; have hfz14_2 := blk_frozen BK132.out 2; have hfz14_3 := blk_frozen BK132.out 3; have hfz14_4 := blk_frozen BK132.out 4))
        go_ret
        exact ⟨by first | rfl | (simp [errW_none, errW_some] <;> rfl) | (simp [*, errW_none, errW_some] <;> rfl), by repeat (first | (with_reducible first | exact HB.out | apply below_alloc | apply pw_below_drewN | apply below_drew1 | refine below_set ?_ GE132.out) | exact HB.out)⟩
    · rw [if_neg c3] at H
      have c3b0 : decide (a0_0 ≤ 3) = false := decide_eq_false c3
      clear c3
      obtain rfl := Option.some.inj H
      go_enter Tryd.func101, Tryd.ntmps101
      go_wp2_with (first | ((with_reducible refine gate_dst (N := 1) rfl ?_); refine box_event ?hg (N := 1) ?hd (cs := #[.int .i64 a0_0, .bool a0_1, .bool a0_2, .int .i64 a0_3, .int .i64 a0_4]) (t := 35) ?hr ?_; (case hd => rfl); (case hg => rfl); (case hr => first | (go_simp; done) | (go_simp; rfl)); intro gb132 hg w15 hbox hb; have n0_ := Aside0.mk (below_step (by repeat (first | (with_reducible first | exact HB.out | apply below_alloc | apply pw_below_drewN | apply below_drew1) | exact HB.out)) hb); have n1_ := Aside0.mk (hbox); have n2_ := Aside0.mk ((by rw [hg]; exact (below_size (by repeat (first | (with_reducible first | exact HB.out | apply below_alloc | apply pw_below_drewN | apply below_drew1) | exact HB.out))) : w.heap.size ≤ gb132)); have n3_ := Aside0.mk ((by rw [hg]; exact (below_size (by repeat (first | (with_reducible first | exact HB.out | apply below_alloc | apply pw_below_drewN | apply below_drew1) | exact HB.out))) : w.heap.size ≤ gb132)); clear HB; have HB := n0_; have BK132 := n1_; have GW132 := n2_; have GE132 := n3_; clear n0_ n1_ n2_ n3_; clear hb hbox hg; have hcz16_0 : w15.cell? ⟨gb132, 0, none⟩ = some (.int .i64 a0_0) := (blk_cell BK132.out 0).trans rfl; have hcz16_1 : w15.cell? ⟨gb132, 1, none⟩ = some (.bool a0_1) := (blk_cell BK132.out 1).trans rfl; have hcz16_2 : w15.cell? ⟨gb132, 2, none⟩ = some (.bool a0_2) := (blk_cell BK132.out 2).trans rfl; have hcz16_3 : w15.cell? ⟨gb132, 3, none⟩ = some (.int .i64 a0_3) := (blk_cell BK132.out 3).trans rfl; have hcz16_4 : w15.cell? ⟨gb132, 4, none⟩ = some (.int .i64 a0_4) := (blk_cell BK132.out 4).trans rfl; have hfz16_0 := blk_frozen BK132.out 0; have hfz16_1 := blk_frozen BK132.out 1; have hfz16_2 := blk_frozen BK132.out 2; have hfz16_3 := blk_frozen BK132.out 3; have hfz16_4 := blk_frozen BK132.out 4))
      go_ret
      exact ⟨by first | rfl | (simp [errW_none, errW_some] <;> rfl) | (simp [*, errW_none, errW_some] <;> rfl), by repeat (first | (with_reducible first | exact HB.out | apply below_alloc | apply pw_below_drewN | apply below_drew1 | refine below_set ?_ GE132.out) | exact HB.out)⟩
  · rw [if_neg c2] at H
    have c2b0 : decide (0 ≤ a0_0) = false := decide_eq_false c2
    clear c2
    obtain rfl := Option.some.inj H
    go_enter Tryd.func101, Tryd.ntmps101
    go_wp2_with (first | ((with_reducible refine gate_dst (N := 1) rfl ?_); refine box_event ?hg (N := 1) ?hd (cs := #[.int .i64 a0_0, .bool a0_1, .bool a0_2, .int .i64 a0_3, .int .i64 a0_4]) (t := 35) ?hr ?_; (case hd => rfl); (case hg => rfl); (case hr => first | (go_simp; done) | (go_simp; rfl)); intro gb132 hg w17 hbox hb; have n0_ := Aside0.mk (below_step (by repeat (first | (with_reducible first | exact HB.out | apply below_alloc | apply pw_below_drewN | apply below_drew1) | exact HB.out)) hb); have n1_ := Aside0.mk (hbox); have n2_ := Aside0.mk ((by rw [hg]; exact (below_size (by repeat (first | (with_reducible first | exact HB.out | apply below_alloc | apply pw_below_drewN | apply below_drew1) | exact HB.out))) : w.heap.size ≤ gb132)); have n3_ := Aside0.mk ((by rw [hg]; exact (below_size (by repeat (first | (with_reducible first | exact HB.out | apply below_alloc | apply pw_below_drewN | apply below_drew1) | exact HB.out))) : w.heap.size ≤ gb132)); clear HB; have HB := n0_; have BK132 := n1_; have GW132 := n2_; have GE132 := n3_; clear n0_ n1_ n2_ n3_; clear hb hbox hg; have hcz18_0 : w17.cell? ⟨gb132, 0, none⟩ = some (.int .i64 a0_0) := (blk_cell BK132.out 0).trans rfl; have hcz18_1 : w17.cell? ⟨gb132, 1, none⟩ = some (.bool a0_1) := (blk_cell BK132.out 1).trans rfl; have hcz18_2 : w17.cell? ⟨gb132, 2, none⟩ = some (.bool a0_2) := (blk_cell BK132.out 2).trans rfl; have hcz18_3 : w17.cell? ⟨gb132, 3, none⟩ = some (.int .i64 a0_3) := (blk_cell BK132.out 3).trans rfl; have hcz18_4 : w17.cell? ⟨gb132, 4, none⟩ = some (.int .i64 a0_4) := (blk_cell BK132.out 4).trans rfl; have hfz18_0 := blk_frozen BK132.out 0; have hfz18_1 := blk_frozen BK132.out 1; have hfz18_2 := blk_frozen BK132.out 2; have hfz18_3 := blk_frozen BK132.out 3; have hfz18_4 := blk_frozen BK132.out 4))
    go_ret
    exact ⟨by first | rfl | (simp [errW_none, errW_some] <;> rfl) | (simp [*, errW_none, errW_some] <;> rfl), by repeat (first | (with_reducible first | exact HB.out | apply below_alloc | apply pw_below_drewN | apply below_drew1 | refine below_set ?_ GE132.out) | exact HB.out)⟩
mutual
def spec_CodClean.j0 : Nat → Bool → Int → Bool → Int → Int → Int → ByteArray → Int → Bool → Bool → Int → Int → Option (Bool)
  | 0, _, _, _, _, _, _, _, _, _, _, _, _ => none
  | k + 1, x16, x134000, x134001, x134002, x134003, x134004, x134005, x134006, x134007, x134008, x134009, x134010 => if x16 = true then (some false) else (if x134000 = 1 then (if x134002 ≥ 0 then (some (decide (x134002 ≤ 255))) else (some false)) else (if x134000 = 2 then (spec_CodClean.j1 k x134000 (x134000 == 2) x134000 x134001 x134002 x134003 x134004 x134005 x134006 x134007 x134008 x134009 x134010) else (spec_CodClean.j1 k x134000 (x134000 == 8) x134000 x134001 x134002 x134003 x134004 x134005 x134006 x134007 x134008 x134009 x134010)))
def spec_CodClean.j1 : Nat → Int → Bool → Int → Bool → Int → Int → Int → ByteArray → Int → Bool → Bool → Int → Int → Option (Bool)
  | 0, _, _, _, _, _, _, _, _, _, _, _, _, _ => none
  | k + 1, x18, x29, x134000, x134001, x134002, x134003, x134004, x134005, x134006, x134007, x134008, x134009, x134010 => if x29 = true then (some (decide ((x134005.size : Int) ≤ 300))) else (if x18 = 3 then (if (Go.bits .and .u64 (x134004 / 4503599627370496) 2047) = 2047 then (some ((IntKind.u64.wrap (x134004 * 4096)) == 0)) else (some true)) else (if x18 = 7 then (if x134004 < 4294967296 then (if (Go.bits .and .u64 (x134004 / 8388608) 255) = 255 then (some ((Go.bits .and .u64 x134004 8388607) == 0)) else (some true)) else (some false)) else (if x18 = 5 then (some (x134002 == (wrap64 (wrap32 (x134002))))) else (if x18 = 9 then (some (decide (x134003 < 4294967296))) else (if x18 = 6 then ((spec_CodPaneIs.f x134006 x134007 x134008 x134009 x134010).bind fun t145 => (some t145)) else (some true))))))
end
def spec_CodClean.f (k : Nat) (a0_0 : Int) (a0_1 : Bool) (a0_2 : Int) (a0_3 : Int) (a0_4 : Int) (a0_5 : ByteArray) (a0_6 : Int) (a0_7 : Bool) (a0_8 : Bool) (a0_9 : Int) (a0_10 : Int) : Option (Bool) := if a0_0 < 0 then (spec_CodClean.j0 k true a0_0 a0_1 a0_2 a0_3 a0_4 a0_5 a0_6 a0_7 a0_8 a0_9 a0_10) else (if a0_0 > 12 then (spec_CodClean.j0 k true a0_0 a0_1 a0_2 a0_3 a0_4 a0_5 a0_6 a0_7 a0_8 a0_9 a0_10) else ((spec_codBare.f k a0_0 a0_1 a0_2 a0_3 a0_4 a0_5 a0_6 a0_7 a0_8 a0_9 a0_10).bind fun bt134 => (spec_CodClean.j0 k (!(a0_0 == bt134.1) || (!(a0_1 == bt134.2.1) || (!(a0_2 == bt134.2.2.1) || (!(a0_3 == bt134.2.2.2.1) || (!(a0_4 == bt134.2.2.2.2.1) || (!(a0_5.toList == bt134.2.2.2.2.2.1.toList) || ((!(a0_6 == bt134.2.2.2.2.2.2.1) || (!(a0_7 == bt134.2.2.2.2.2.2.2.1) || (!(a0_8 == bt134.2.2.2.2.2.2.2.2.1) || (!(a0_9 == bt134.2.2.2.2.2.2.2.2.2.1) || (!(a0_10 == bt134.2.2.2.2.2.2.2.2.2.2))))))))))))) a0_0 a0_1 a0_2 a0_3 a0_4 a0_5 a0_6 a0_7 a0_8 a0_9 a0_10)))
theorem spec_CodClean.mono_l : ∀ k, (∀ y0 y1 y2 y3 y4 y5 y6 y7 y8 y9 y10 y11, LeO (spec_CodClean.j0 k y0 y1 y2 y3 y4 y5 y6 y7 y8 y9 y10 y11) (spec_CodClean.j0 (k + 1) y0 y1 y2 y3 y4 y5 y6 y7 y8 y9 y10 y11)) ∧ (∀ y0 y1 y2 y3 y4 y5 y6 y7 y8 y9 y10 y11 y12, LeO (spec_CodClean.j1 k y0 y1 y2 y3 y4 y5 y6 y7 y8 y9 y10 y11 y12) (spec_CodClean.j1 (k + 1) y0 y1 y2 y3 y4 y5 y6 y7 y8 y9 y10 y11 y12))
  | 0 => ⟨fun _ _ _ _ _ _ _ _ _ _ _ _ r h => by simp [spec_CodClean.j0] at h, fun _ _ _ _ _ _ _ _ _ _ _ _ _ r h => by simp [spec_CodClean.j1] at h⟩
  | k + 1 => by
    obtain ⟨ih0, ih1⟩ := spec_CodClean.mono_l k
    refine ⟨?_, ?_⟩
    · intro y0 y1 y2 y3 y4 y5 y6 y7 y8 y9 y10 y11
      unfold spec_CodClean.j0
      repeat' first
      | (with_reducible exact ih0 _ _ _ _ _ _ _ _ _ _ _ _)
      | (with_reducible exact ih1 _ _ _ _ _ _ _ _ _ _ _ _ _)
      | (with_reducible exact spec_codBare.mono _ _ _ _ _ _ _ _ _ _ _ _)
      | (with_reducible exact LeO.refl _)
      | (with_reducible exact LeO.none _)
      | (with_reducible refine LeO.ite ?_ ?_)
      | (with_reducible refine LeO.bind ?_ (fun _ => ?_))
      | exact ih0 _ _ _ _ _ _ _ _ _ _ _ _
      | exact ih1 _ _ _ _ _ _ _ _ _ _ _ _ _
      | exact spec_codBare.mono _ _ _ _ _ _ _ _ _ _ _ _
      | exact LeO.none _
      | refine LeO.ite ?_ ?_
      | refine LeO.bind ?_ (fun _ => ?_)
    · intro y0 y1 y2 y3 y4 y5 y6 y7 y8 y9 y10 y11 y12
      unfold spec_CodClean.j1
      repeat' first
      | (with_reducible exact ih0 _ _ _ _ _ _ _ _ _ _ _ _)
      | (with_reducible exact ih1 _ _ _ _ _ _ _ _ _ _ _ _ _)
      | (with_reducible exact spec_codBare.mono _ _ _ _ _ _ _ _ _ _ _ _)
      | (with_reducible exact LeO.refl _)
      | (with_reducible exact LeO.none _)
      | (with_reducible refine LeO.ite ?_ ?_)
      | (with_reducible refine LeO.bind ?_ (fun _ => ?_))
      | exact ih0 _ _ _ _ _ _ _ _ _ _ _ _
      | exact ih1 _ _ _ _ _ _ _ _ _ _ _ _ _
      | exact spec_codBare.mono _ _ _ _ _ _ _ _ _ _ _ _
      | exact LeO.none _
      | refine LeO.ite ?_ ?_
      | refine LeO.bind ?_ (fun _ => ?_)
theorem spec_CodClean.mono : ∀ a0 a1 a2 a3 a4 a5 a6 a7 a8 a9 a10 k, LeO (spec_CodClean.f k a0 a1 a2 a3 a4 a5 a6 a7 a8 a9 a10) (spec_CodClean.f (k + 1) a0 a1 a2 a3 a4 a5 a6 a7 a8 a9 a10) := by
  intro a0 a1 a2 a3 a4 a5 a6 a7 a8 a9 a10 k
  obtain ⟨ih0, ih1⟩ := spec_CodClean.mono_l k
  unfold spec_CodClean.f
  repeat' first
      | (with_reducible exact ih0 _ _ _ _ _ _ _ _ _ _ _ _)
      | (with_reducible exact ih1 _ _ _ _ _ _ _ _ _ _ _ _ _)
      | (with_reducible exact spec_codBare.mono _ _ _ _ _ _ _ _ _ _ _ _)
      | (with_reducible exact LeO.refl _)
      | (with_reducible exact LeO.none _)
      | (with_reducible refine LeO.ite ?_ ?_)
      | (with_reducible refine LeO.bind ?_ (fun _ => ?_))
      | exact ih0 _ _ _ _ _ _ _ _ _ _ _ _
      | exact ih1 _ _ _ _ _ _ _ _ _ _ _ _ _
      | exact spec_codBare.mono _ _ _ _ _ _ _ _ _ _ _ _
      | exact LeO.none _
      | refine LeO.ite ?_ ?_
      | refine LeO.bind ?_ (fun _ => ?_)
def spec_CodClean.T1 : Bool × List (List Nat × List Nat) := (true, [([], []), ([0], [0]), ([1], [1]), ([2], [2]), ([3], [3]), ([4, 3], [3, 4]), ([5, 3], [3, 5]), ([3, 6], [3, 6]), ([7, 3], [7]), ([8], [8]), ([8], [8]), ([10, 8, 8], [8, 10]), ([9, 11, 8], [8, 9, 11]), ([8, 12], [8, 12])])
def spec_CodClean.B1 : List Nat := [0, 1, 3, 7, 15, 31, 63, 127, 255, 511, 511, 1535, 4095, 8191]
theorem spec_CodClean.tab1 : rtab .any (opsOf Tryd.f64 1) = spec_CodClean.T1 := by kernel_rfl
theorem spec_CodClean.bits1 : waitsOk spec_CodClean.T1.2 spec_CodClean.B1 = true := by kernel_rfl
set_option maxHeartbeats 8000000 in
set_option maxRecDepth 100000 in
theorem spec_CodClean.calls (k : Nat) (a0_0 : Int) (a0_1 : Bool) (a0_2 : Int) (a0_3 : Int) (a0_4 : Int) (a0_5 : ByteArray) (a0_6 : Int) (a0_7 : Bool) (a0_8 : Bool) (a0_9 : Int) (a0_10 : Int) (r : Bool) (w : World) (h : spec_CodClean.f k a0_0 a0_1 a0_2 a0_3 a0_4 a0_5 a0_6 a0_7 a0_8 a0_9 a0_10 = some r) :
    Calls Tryd.prog 64 #[.agg #[.int .i64 a0_0, .bool a0_1, .int .i64 a0_2, .int .u64 a0_3, .int .u64 a0_4, .string a0_5, .int .i64 a0_6, .bool a0_7, .bool a0_8, .int .i64 a0_9, .int .i64 a0_10]] w fun e w' => e = .returned (.bool r) ∧ Below w.heap.size w w' := by
  have hu37 := Tryd.underlying37
  have hu35 := Tryd.underlying35
  have HB := Aside0.mk (Below.refl w.heap.size w)
  have H : (if a0_0 < 0 then (spec_CodClean.j0 k true a0_0 a0_1 a0_2 a0_3 a0_4 a0_5 a0_6 a0_7 a0_8 a0_9 a0_10) else (if a0_0 > 12 then (spec_CodClean.j0 k true a0_0 a0_1 a0_2 a0_3 a0_4 a0_5 a0_6 a0_7 a0_8 a0_9 a0_10) else ((spec_codBare.f k a0_0 a0_1 a0_2 a0_3 a0_4 a0_5 a0_6 a0_7 a0_8 a0_9 a0_10).bind fun bt134 => (spec_CodClean.j0 k (!(a0_0 == bt134.1) || (!(a0_1 == bt134.2.1) || (!(a0_2 == bt134.2.2.1) || (!(a0_3 == bt134.2.2.2.1) || (!(a0_4 == bt134.2.2.2.2.1) || (!(a0_5.toList == bt134.2.2.2.2.2.1.toList) || ((!(a0_6 == bt134.2.2.2.2.2.2.1) || (!(a0_7 == bt134.2.2.2.2.2.2.2.1) || (!(a0_8 == bt134.2.2.2.2.2.2.2.2.1) || (!(a0_9 == bt134.2.2.2.2.2.2.2.2.2.1) || (!(a0_10 == bt134.2.2.2.2.2.2.2.2.2.2))))))))))))) a0_0 a0_1 a0_2 a0_3 a0_4 a0_5 a0_6 a0_7 a0_8 a0_9 a0_10)))) = some r := h
  clear h
  have HC2 := Aside0.mk H
  clear H
  go_enter Tryd.func64, Tryd.ntmps64
  go_upto_region 1 with (first | ((with_reducible refine gate_dst (N := 1) rfl ?_); refine box_event ?hg (N := 1) ?hd (cs := #[.int .i64 a0_0, .bool a0_1, .int .i64 a0_2, .int .u64 a0_3, .int .u64 a0_4, .string a0_5, .int .i64 a0_6, .bool a0_7, .bool a0_8, .int .i64 a0_9, .int .i64 a0_10]) (t := 37) ?hr ?_; (case hd => rfl); (case hg => rfl); (case hr => first | (go_simp; done) | (go_simp; rfl)); intro gb133 hg w3 hbox hb; have n0_ := Aside0.mk (below_step (by repeat (first | (with_reducible first | exact HB.out | apply below_alloc | apply pw_below_drewN | apply below_drew1) | exact HB.out)) hb); have n1_ := Aside0.mk (hbox); have n2_ := Aside0.mk ((by rw [hg]; exact (below_size (by repeat (first | (with_reducible first | exact HB.out | apply below_alloc | apply pw_below_drewN | apply below_drew1) | exact HB.out))) : w.heap.size ≤ gb133)); have n3_ := Aside0.mk ((by rw [hg]; exact (below_size (by repeat (first | (with_reducible first | exact HB.out | apply below_alloc | apply pw_below_drewN | apply below_drew1) | exact HB.out))) : w.heap.size ≤ gb133)); clear HB; have HB := n0_; have BK133 := n1_; have GW133 := n2_; have GE133 := n3_; clear n0_ n1_ n2_ n3_; clear hb hbox hg))
  (try simp only [Act.put, List.setIfInBounds_toArray, List.set_cons_zero, List.set_cons_succ])
  go_cut [16] (fun v16 wc => ∃ (kq : Nat) (x16_1 : Bool), v16 = .bool x16_1 ∧ Aside0 (spec_CodClean.j0 kq x16_1 a0_0 a0_1 a0_2 a0_3 a0_4 a0_5 a0_6 a0_7 a0_8 a0_9 a0_10 = some r) ∧ Aside0 (kq ≤ k) ∧ Aside0 (wc.heap[gb133]? = some (.cells #[.int .i64 a0_0, .bool a0_1, .int .i64 a0_2, .int .u64 a0_3, .int .u64 a0_4, .string a0_5, .int .i64 a0_6, .bool a0_7, .bool a0_8, .int .i64 a0_9, .int .i64 a0_10] 37 (0, 0))) ∧ Aside0 (Below w.heap.size w wc))
  case first =>
    have H := HC2.out
    clear HC2
    by_cases c4 : a0_0 < 0
    · rw [if_pos c4] at H
      have c4b0 : decide (a0_0 < 0) = true := decide_eq_true c4
      clear c4
      (first | rw [c4b0] | (simp only [i64_w, i32_w]; rw [c4b0]) | skip)
      have H' := Aside0.mk H
      clear H
      try go_wp2
      have n0_ := Aside0.mk (blk_drew BK133.out)
      have n1_ := Aside0.mk (below_drew1 HB.out)
      clear BK133
      clear HB
      have BK133 := n0_
      have HB := n1_
      clear n0_ n1_
      refine start_ (n := 14) (S := fun w' => w'.cell? ⟨gb133, 0, none⟩ = some (.int .i64 a0_0) ∧ w'.cell? ⟨gb133, 1, none⟩ = some (.bool a0_1) ∧ w'.cell? ⟨gb133, 2, none⟩ = some (.int .i64 a0_2) ∧ w'.cell? ⟨gb133, 3, none⟩ = some (.int .u64 a0_3) ∧ w'.cell? ⟨gb133, 4, none⟩ = some (.int .u64 a0_4) ∧ w'.cell? ⟨gb133, 5, none⟩ = some (.string a0_5) ∧ w'.cell? ⟨gb133, 6, none⟩ = some (.int .i64 a0_6) ∧ w'.cell? ⟨gb133, 7, none⟩ = some (.bool a0_7) ∧ w'.cell? ⟨gb133, 8, none⟩ = some (.bool a0_8) ∧ w'.cell? ⟨gb133, 9, none⟩ = some (.int .i64 a0_9) ∧ w'.cell? ⟨gb133, 10, none⟩ = some (.int .i64 a0_10)) (ds := []) #[false, false, false, false, false, false, false, false, false, false, false, false, false, false] (by kernel_rfl) rfl rfl ⟨(blk_cell BK133.out 0).trans rfl, (blk_cell BK133.out 1).trans rfl, (blk_cell BK133.out 2).trans rfl, (blk_cell BK133.out 3).trans rfl, (blk_cell BK133.out 4).trans rfl, (blk_cell BK133.out 5).trans rfl, (blk_cell BK133.out 6).trans rfl, (blk_cell BK133.out 7).trans rfl, (blk_cell BK133.out 8).trans rfl, (blk_cell BK133.out 9).trans rfl, (blk_cell BK133.out 10).trans rfl⟩ (fun hHeld => ?_); refine with_tabW spec_CodClean.tab1 spec_CodClean.bits1 (fun HT_ HW_ => ?_)
      generalize w3.drew = w5 at BK133 HB hHeld ⊢
      refine pure_ (i := 0) (N := some 3) (v := ?_) (a' := ?_) #[true, false, false, false, false, false, false, false, false, false, false, false, false, false] rfl rfl (any_of HT_.out (by kernel_rfl)) (fun _ _ _ h => h) (Or.inl ⟨by rfl, ?_⟩) ?_ ?_
      rotate_left
      · intro w'
        go_simp
        with_reducible rfl
      rotate_left
      · simp only [Act.put, List.setIfInBounds_toArray, List.set_cons_zero, List.set_cons_succ, i64_w, i32_w]
        rfl
      refine take_ (i := 1) (N := some 4) (v := ?_) (a' := ?_) #[true, true, false, false, false, false, false, false, false, false, false, false, false, false] rfl rfl (take_ofW HT_.out HW_.out (by kernel_rfl)) (fun _ _ _ h => h) (Or.inl ⟨by rfl, ?_⟩) hHeld ?_ ?_
      rotate_left
      · rintro w' ⟨s0, s1, s2, s3, s4, s5, s6, s7, s8, s9, s10⟩
        go_simp
        with_reducible rfl
      rotate_left
      · simp only [Act.put, List.setIfInBounds_toArray, List.set_cons_zero, List.set_cons_succ, i64_w, i32_w]
        rfl
      refine pure_ (i := 2) (N := some 5) (v := ?_) (a' := ?_) #[true, true, true, false, false, false, false, false, false, false, false, false, false, false] rfl rfl (any_of HT_.out (by kernel_rfl)) (fun _ _ _ h => h) (Or.inl ⟨by rfl, ?_⟩) ?_ ?_
      rotate_left
      · intro w'
        go_simp
        with_reducible rfl
      rotate_left
      · simp only [Act.put, List.setIfInBounds_toArray, List.set_cons_zero, List.set_cons_succ, i64_w, i32_w]
        rfl
      refine pure_ (i := 3) (N := some 6) (v := ?_) (a' := ?_) #[true, true, true, true, false, false, false, false, false, false, false, false, false, false] rfl rfl (any_of HT_.out (by kernel_rfl)) (fun _ _ _ h => h) (Or.inl ⟨by rfl, ?_⟩) ?_ ?_
      rotate_left
      · intro w'
        go_simp
        with_reducible rfl
      rotate_left
      · simp only [Act.put, List.setIfInBounds_toArray, List.set_cons_zero, List.set_cons_succ, i64_w, i32_w]
        rfl
      refine pure_ (i := 4) (N := some 7) (v := undef) (a' := ?_) #[true, true, true, true, true, false, false, false, false, false, false, false, false, false] rfl rfl (any_of HT_.out (by kernel_rfl)) (fun _ _ _ h => h) (Or.inr ⟨by rfl, rfl⟩) ?_ ?_
      rotate_left
      · simp only [Act.put, List.setIfInBounds_toArray, List.set_cons_zero, List.set_cons_succ, i64_w, i32_w]
        rfl
      refine pure_ (i := 5) (N := some 8) (v := undef) (a' := ?_) #[true, true, true, true, true, true, false, false, false, false, false, false, false, false] rfl rfl (any_of HT_.out (by kernel_rfl)) (fun _ _ _ h => h) (Or.inr ⟨by rfl, rfl⟩) ?_ ?_
      rotate_left
      · simp only [Act.put, List.setIfInBounds_toArray, List.set_cons_zero, List.set_cons_succ, i64_w, i32_w]
        rfl
      refine pure_ (i := 6) (N := some 9) (v := undef) (a' := ?_) #[true, true, true, true, true, true, true, false, false, false, false, false, false, false] rfl rfl (any_of HT_.out (by kernel_rfl)) (fun _ _ _ h => h) (Or.inr ⟨by rfl, rfl⟩) ?_ ?_
      rotate_left
      · simp only [Act.put, List.setIfInBounds_toArray, List.set_cons_zero, List.set_cons_succ, i64_w, i32_w]
        rfl
      refine pure_ (i := 7) (N := some 10) (v := ?_) (a' := ?_) #[true, true, true, true, true, true, true, true, false, false, false, false, false, false] rfl rfl (any_of HT_.out (by kernel_rfl)) (fun _ _ _ h => h) (Or.inl ⟨by rfl, ?_⟩) ?_ ?_
      rotate_left
      · intro w'
        go_simp
        with_reducible rfl
      rotate_left
      · simp only [Act.put, List.setIfInBounds_toArray, List.set_cons_zero, List.set_cons_succ, i64_w, i32_w]
        rfl
      refine pure_ (i := 8) (N := some 11) (v := ?_) (a' := ?_) #[true, true, true, true, true, true, true, true, true, false, false, false, false, false] rfl rfl (any_of HT_.out (by kernel_rfl)) (fun _ _ _ h => h) (Or.inl ⟨by rfl, ?_⟩) ?_ ?_
      rotate_left
      · intro w'
        go_simp
        with_reducible rfl
      rotate_left
      · simp only [Act.put, List.setIfInBounds_toArray, List.set_cons_zero, List.set_cons_succ, i64_w, i32_w]
        rfl
      refine pure_ (i := 9) (N := some 12) (v := undef) (a' := ?_) #[true, true, true, true, true, true, true, true, true, true, false, false, false, false] rfl rfl (any_of HT_.out (by kernel_rfl)) (fun _ _ _ h => h) (Or.inr ⟨by rfl, rfl⟩) ?_ ?_
      rotate_left
      · simp only [Act.put, List.setIfInBounds_toArray, List.set_cons_zero, List.set_cons_succ, i64_w, i32_w]
        rfl
      refine pure_ (i := 10) (N := some 13) (v := undef) (a' := ?_) #[true, true, true, true, true, true, true, true, true, true, true, false, false, false] rfl rfl (any_of HT_.out (by kernel_rfl)) (fun _ _ _ h => h) (Or.inr ⟨by rfl, rfl⟩) ?_ ?_
      rotate_left
      · simp only [Act.put, List.setIfInBounds_toArray, List.set_cons_zero, List.set_cons_succ, i64_w, i32_w]
        rfl
      refine pure_ (i := 11) (N := some 14) (v := undef) (a' := ?_) #[true, true, true, true, true, true, true, true, true, true, true, true, false, false] rfl rfl (any_of HT_.out (by kernel_rfl)) (fun _ _ _ h => h) (Or.inr ⟨by rfl, rfl⟩) ?_ ?_
      rotate_left
      · simp only [Act.put, List.setIfInBounds_toArray, List.set_cons_zero, List.set_cons_succ, i64_w, i32_w]
        rfl
      refine pure_ (i := 12) (N := some 15) (v := undef) (a' := ?_) #[true, true, true, true, true, true, true, true, true, true, true, true, true, false] rfl rfl (any_of HT_.out (by kernel_rfl)) (fun _ _ _ h => h) (Or.inr ⟨by rfl, rfl⟩) ?_ ?_
      rotate_left
      · simp only [Act.put, List.setIfInBounds_toArray, List.set_cons_zero, List.set_cons_succ, i64_w, i32_w]
        rfl
      refine pure_ (i := 13) (N := some 16) (v := ?_) (a' := ?_) #[true, true, true, true, true, true, true, true, true, true, true, true, true, true] rfl rfl (any_of HT_.out (by kernel_rfl)) (fun _ _ _ h => h) (Or.inl ⟨by rfl, ?_⟩) ?_ ?_
      rotate_left
      · intro w'
        go_simp
        with_reducible rfl
      rotate_left
      · simp only [Act.put, List.setIfInBounds_toArray, List.set_cons_zero, List.set_cons_succ, i64_w, i32_w]
        rfl
      refine done_ (done_of HT_.out (by kernel_rfl)) ?_
      try go_wp2
      go_meet
      case rel => exact ⟨_, (true), (by first | rfl | (simp; done) | (simp [*]; done)), H', ⟨by first | omega | exact Nat.le_refl _⟩, ⟨by (with_reducible repeat (first | refine blk_drewN ?_ _ | refine blk_drew ?_ | refine blk_alloc ?_ _)); exact BK133.out⟩, ⟨by repeat (first | (with_reducible first | exact HB.out | apply below_alloc | apply pw_below_drewN | apply below_drew1 | refine below_set ?_ GE133.out) | exact HB.out)⟩⟩
    · rw [if_neg c4] at H
      have c4b0 : decide (a0_0 < 0) = false := decide_eq_false c4
      clear c4
      (first | rw [c4b0] | (simp only [i64_w, i32_w]; rw [c4b0]) | skip)
      by_cases c6 : a0_0 > 12
      · rw [if_pos c6] at H
        have c6b0 : decide (12 < a0_0) = true := decide_eq_true c6
        clear c6
        have H' := Aside0.mk H
        clear H
        try go_wp2
        have n0_ := Aside0.mk (blk_drew BK133.out)
        have n1_ := Aside0.mk (below_drew1 HB.out)
        clear BK133
        clear HB
        have BK133 := n0_
        have HB := n1_
        clear n0_ n1_
        refine start_ (n := 14) (S := fun w' => w'.cell? ⟨gb133, 0, none⟩ = some (.int .i64 a0_0) ∧ w'.cell? ⟨gb133, 1, none⟩ = some (.bool a0_1) ∧ w'.cell? ⟨gb133, 2, none⟩ = some (.int .i64 a0_2) ∧ w'.cell? ⟨gb133, 3, none⟩ = some (.int .u64 a0_3) ∧ w'.cell? ⟨gb133, 4, none⟩ = some (.int .u64 a0_4) ∧ w'.cell? ⟨gb133, 5, none⟩ = some (.string a0_5) ∧ w'.cell? ⟨gb133, 6, none⟩ = some (.int .i64 a0_6) ∧ w'.cell? ⟨gb133, 7, none⟩ = some (.bool a0_7) ∧ w'.cell? ⟨gb133, 8, none⟩ = some (.bool a0_8) ∧ w'.cell? ⟨gb133, 9, none⟩ = some (.int .i64 a0_9) ∧ w'.cell? ⟨gb133, 10, none⟩ = some (.int .i64 a0_10)) (ds := []) #[false, false, false, false, false, false, false, false, false, false, false, false, false, false] (by kernel_rfl) rfl rfl ⟨(blk_cell BK133.out 0).trans rfl, (blk_cell BK133.out 1).trans rfl, (blk_cell BK133.out 2).trans rfl, (blk_cell BK133.out 3).trans rfl, (blk_cell BK133.out 4).trans rfl, (blk_cell BK133.out 5).trans rfl, (blk_cell BK133.out 6).trans rfl, (blk_cell BK133.out 7).trans rfl, (blk_cell BK133.out 8).trans rfl, (blk_cell BK133.out 9).trans rfl, (blk_cell BK133.out 10).trans rfl⟩ (fun hHeld => ?_); refine with_tabW spec_CodClean.tab1 spec_CodClean.bits1 (fun HT_ HW_ => ?_)
        generalize w3.drew = w7 at BK133 HB hHeld ⊢
        refine pure_ (i := 0) (N := some 3) (v := ?_) (a' := ?_) #[true, false, false, false, false, false, false, false, false, false, false, false, false, false] rfl rfl (any_of HT_.out (by kernel_rfl)) (fun _ _ _ h => h) (Or.inl ⟨by rfl, ?_⟩) ?_ ?_
        rotate_left
        · intro w'
          go_simp
          with_reducible rfl
        rotate_left
        · simp only [Act.put, List.setIfInBounds_toArray, List.set_cons_zero, List.set_cons_succ, i64_w, i32_w]
          rfl
        refine take_ (i := 1) (N := some 4) (v := ?_) (a' := ?_) #[true, true, false, false, false, false, false, false, false, false, false, false, false, false] rfl rfl (take_ofW HT_.out HW_.out (by kernel_rfl)) (fun _ _ _ h => h) (Or.inl ⟨by rfl, ?_⟩) hHeld ?_ ?_
        rotate_left
        · rintro w' ⟨s0, s1, s2, s3, s4, s5, s6, s7, s8, s9, s10⟩
          go_simp
          with_reducible rfl
        rotate_left
        · simp only [Act.put, List.setIfInBounds_toArray, List.set_cons_zero, List.set_cons_succ, i64_w, i32_w]
          rfl
        refine pure_ (i := 2) (N := some 5) (v := ?_) (a' := ?_) #[true, true, true, false, false, false, false, false, false, false, false, false, false, false] rfl rfl (any_of HT_.out (by kernel_rfl)) (fun _ _ _ h => h) (Or.inl ⟨by rfl, ?_⟩) ?_ ?_
        rotate_left
        · intro w'
          go_simp
          with_reducible rfl
        rotate_left
        · simp only [Act.put, List.setIfInBounds_toArray, List.set_cons_zero, List.set_cons_succ, i64_w, i32_w]
          rfl
        refine pure_ (i := 3) (N := some 6) (v := ?_) (a' := ?_) #[true, true, true, true, false, false, false, false, false, false, false, false, false, false] rfl rfl (any_of HT_.out (by kernel_rfl)) (fun _ _ _ h => h) (Or.inl ⟨by rfl, ?_⟩) ?_ ?_
        rotate_left
        · intro w'
          go_simp
          with_reducible rfl
        rotate_left
        · simp only [Act.put, List.setIfInBounds_toArray, List.set_cons_zero, List.set_cons_succ, i64_w, i32_w]
          rfl
        refine pure_ (i := 4) (N := some 7) (v := ?_) (a' := ?_) #[true, true, true, true, true, false, false, false, false, false, false, false, false, false] rfl rfl (any_of HT_.out (by kernel_rfl)) (fun _ _ _ h => h) (Or.inl ⟨by rfl, ?_⟩) ?_ ?_
        rotate_left
        · intro w'
          go_simp
          with_reducible rfl
        rotate_left
        · simp only [Act.put, List.setIfInBounds_toArray, List.set_cons_zero, List.set_cons_succ, i64_w, i32_w]
          rfl
        refine take_ (i := 5) (N := some 8) (v := ?_) (a' := ?_) #[true, true, true, true, true, true, false, false, false, false, false, false, false, false] rfl rfl (take_ofW HT_.out HW_.out (by kernel_rfl)) (fun _ _ _ h => h) (Or.inl ⟨by rfl, ?_⟩) hHeld ?_ ?_
        rotate_left
        · rintro w' ⟨s0, s1, s2, s3, s4, s5, s6, s7, s8, s9, s10⟩
          go_simp
          with_reducible rfl
        rotate_left
        · simp only [Act.put, List.setIfInBounds_toArray, List.set_cons_zero, List.set_cons_succ, i64_w, i32_w]
          rfl
        refine pure_ (i := 6) (N := some 9) (v := ?_) (a' := ?_) #[true, true, true, true, true, true, true, false, false, false, false, false, false, false] rfl rfl (any_of HT_.out (by kernel_rfl)) (fun _ _ _ h => h) (Or.inl ⟨by rfl, ?_⟩) ?_ ?_
        rotate_left
        · intro w'
          go_simp
          with_reducible rfl
        rotate_left
        · simp only [Act.put, List.setIfInBounds_toArray, List.set_cons_zero, List.set_cons_succ, i64_w, i32_w]
          rfl
        refine pure_ (i := 7) (N := some 10) (v := ?_) (a' := ?_) #[true, true, true, true, true, true, true, true, false, false, false, false, false, false] rfl rfl (any_of HT_.out (by kernel_rfl)) (fun _ _ _ h => h) (Or.inl ⟨by rfl, ?_⟩) ?_ ?_
        rotate_left
        · intro w'
          go_simp
          with_reducible rfl
        rotate_left
        · simp only [Act.put, List.setIfInBounds_toArray, List.set_cons_zero, List.set_cons_succ, i64_w, i32_w]
          rfl
        refine pure_ (i := 8) (N := some 11) (v := ?_) (a' := ?_) #[true, true, true, true, true, true, true, true, true, false, false, false, false, false] rfl rfl (any_of HT_.out (by kernel_rfl)) (fun _ _ _ h => h) (Or.inl ⟨by rfl, ?_⟩) ?_ ?_
        rotate_left
        · intro w'
          go_simp
          with_reducible rfl
        rotate_left
        · simp only [Act.put, List.setIfInBounds_toArray, List.set_cons_zero, List.set_cons_succ, i64_w, i32_w]
          rfl
        refine pure_ (i := 9) (N := some 12) (v := undef) (a' := ?_) #[true, true, true, true, true, true, true, true, true, true, false, false, false, false] rfl rfl (any_of HT_.out (by kernel_rfl)) (fun _ _ _ h => h) (Or.inr ⟨by rfl, rfl⟩) ?_ ?_
        rotate_left
        · simp only [Act.put, List.setIfInBounds_toArray, List.set_cons_zero, List.set_cons_succ, i64_w, i32_w]
          rfl
        refine pure_ (i := 10) (N := some 13) (v := undef) (a' := ?_) #[true, true, true, true, true, true, true, true, true, true, true, false, false, false] rfl rfl (any_of HT_.out (by kernel_rfl)) (fun _ _ _ h => h) (Or.inr ⟨by rfl, rfl⟩) ?_ ?_
        rotate_left
        · simp only [Act.put, List.setIfInBounds_toArray, List.set_cons_zero, List.set_cons_succ, i64_w, i32_w]
          rfl
        refine pure_ (i := 11) (N := some 14) (v := undef) (a' := ?_) #[true, true, true, true, true, true, true, true, true, true, true, true, false, false] rfl rfl (any_of HT_.out (by kernel_rfl)) (fun _ _ _ h => h) (Or.inr ⟨by rfl, rfl⟩) ?_ ?_
        rotate_left
        · simp only [Act.put, List.setIfInBounds_toArray, List.set_cons_zero, List.set_cons_succ, i64_w, i32_w]
          rfl
        refine pure_ (i := 12) (N := some 15) (v := undef) (a' := ?_) #[true, true, true, true, true, true, true, true, true, true, true, true, true, false] rfl rfl (any_of HT_.out (by kernel_rfl)) (fun _ _ _ h => h) (Or.inr ⟨by rfl, rfl⟩) ?_ ?_
        rotate_left
        · simp only [Act.put, List.setIfInBounds_toArray, List.set_cons_zero, List.set_cons_succ, i64_w, i32_w]
          rfl
        refine pure_ (i := 13) (N := some 16) (v := ?_) (a' := ?_) #[true, true, true, true, true, true, true, true, true, true, true, true, true, true] rfl rfl (any_of HT_.out (by kernel_rfl)) (fun _ _ _ h => h) (Or.inl ⟨by rfl, ?_⟩) ?_ ?_
        rotate_left
        · intro w'
          go_simp
          with_reducible rfl
        rotate_left
        · simp only [Act.put, List.setIfInBounds_toArray, List.set_cons_zero, List.set_cons_succ, i64_w, i32_w]
          rfl
        refine done_ (done_of HT_.out (by kernel_rfl)) ?_
        try go_wp2
        go_meet
        case rel => exact ⟨_, (true), (by first | rfl | (simp; done) | (simp [*]; done)), H', ⟨by first | omega | exact Nat.le_refl _⟩, ⟨by (with_reducible repeat (first | refine blk_drewN ?_ _ | refine blk_drew ?_ | refine blk_alloc ?_ _)); exact BK133.out⟩, ⟨by repeat (first | (with_reducible first | exact HB.out | apply below_alloc | apply pw_below_drewN | apply below_drew1 | refine below_set ?_ GE133.out) | exact HB.out)⟩⟩
      · rw [if_neg c6] at H
        have c6b0 : decide (12 < a0_0) = false := decide_eq_false c6
        clear c6
        replace H := Option.bind_eq_some_iff.mp H
        obtain ⟨⟨t134, t135, t136, t137, t138, t139, t140, t141, t142, t143, t144⟩, A80, H⟩ := H
        replace H : (spec_CodClean.j0 k (!(a0_0 == t134) || (!(a0_1 == t135) || (!(a0_2 == t136) || (!(a0_3 == t137) || (!(a0_4 == t138) || (!(a0_5.toList == t139.toList) || ((!(a0_6 == t140) || (!(a0_7 == t141) || (!(a0_8 == t142) || (!(a0_9 == t143) || (!(a0_10 == t144))))))))))))) a0_0 a0_1 a0_2 a0_3 a0_4 a0_5 a0_6 a0_7 a0_8 a0_9 a0_10) = some r := H
        have A8 := Aside0.mk A80
        clear A80
        have H' := Aside0.mk H
        clear H
        try go_wp2
        have n0_ := Aside0.mk (blk_drew BK133.out)
        have n1_ := Aside0.mk (below_drew1 HB.out)
        clear BK133
        clear HB
        have BK133 := n0_
        have HB := n1_
        clear n0_ n1_
        refine start_ (n := 14) (S := fun w' => w'.cell? ⟨gb133, 0, none⟩ = some (.int .i64 a0_0) ∧ w'.cell? ⟨gb133, 1, none⟩ = some (.bool a0_1) ∧ w'.cell? ⟨gb133, 2, none⟩ = some (.int .i64 a0_2) ∧ w'.cell? ⟨gb133, 3, none⟩ = some (.int .u64 a0_3) ∧ w'.cell? ⟨gb133, 4, none⟩ = some (.int .u64 a0_4) ∧ w'.cell? ⟨gb133, 5, none⟩ = some (.string a0_5) ∧ w'.cell? ⟨gb133, 6, none⟩ = some (.int .i64 a0_6) ∧ w'.cell? ⟨gb133, 7, none⟩ = some (.bool a0_7) ∧ w'.cell? ⟨gb133, 8, none⟩ = some (.bool a0_8) ∧ w'.cell? ⟨gb133, 9, none⟩ = some (.int .i64 a0_9) ∧ w'.cell? ⟨gb133, 10, none⟩ = some (.int .i64 a0_10)) (ds := []) #[false, false, false, false, false, false, false, false, false, false, false, false, false, false] (by kernel_rfl) rfl rfl ⟨(blk_cell BK133.out 0).trans rfl, (blk_cell BK133.out 1).trans rfl, (blk_cell BK133.out 2).trans rfl, (blk_cell BK133.out 3).trans rfl, (blk_cell BK133.out 4).trans rfl, (blk_cell BK133.out 5).trans rfl, (blk_cell BK133.out 6).trans rfl, (blk_cell BK133.out 7).trans rfl, (blk_cell BK133.out 8).trans rfl, (blk_cell BK133.out 9).trans rfl, (blk_cell BK133.out 10).trans rfl⟩ (fun hHeld => ?_); refine with_tabW spec_CodClean.tab1 spec_CodClean.bits1 (fun HT_ HW_ => ?_)
        generalize w3.drew = w9 at BK133 HB hHeld ⊢
        refine pure_ (i := 0) (N := some 3) (v := ?_) (a' := ?_) #[true, false, false, false, false, false, false, false, false, false, false, false, false, false] rfl rfl (any_of HT_.out (by kernel_rfl)) (fun _ _ _ h => h) (Or.inl ⟨by rfl, ?_⟩) ?_ ?_
        rotate_left
        · intro w'
          go_simp
          with_reducible rfl
        rotate_left
        · simp only [Act.put, List.setIfInBounds_toArray, List.set_cons_zero, List.set_cons_succ, i64_w, i32_w]
          rfl
        refine take_ (i := 1) (N := some 4) (v := ?_) (a' := ?_) #[true, true, false, false, false, false, false, false, false, false, false, false, false, false] rfl rfl (take_ofW HT_.out HW_.out (by kernel_rfl)) (fun _ _ _ h => h) (Or.inl ⟨by rfl, ?_⟩) hHeld ?_ ?_
        rotate_left
        · rintro w' ⟨s0, s1, s2, s3, s4, s5, s6, s7, s8, s9, s10⟩
          go_simp
          with_reducible rfl
        rotate_left
        · simp only [Act.put, List.setIfInBounds_toArray, List.set_cons_zero, List.set_cons_succ, i64_w, i32_w]
          rfl
        refine pure_ (i := 2) (N := some 5) (v := ?_) (a' := ?_) #[true, true, true, false, false, false, false, false, false, false, false, false, false, false] rfl rfl (any_of HT_.out (by kernel_rfl)) (fun _ _ _ h => h) (Or.inl ⟨by rfl, ?_⟩) ?_ ?_
        rotate_left
        · intro w'
          go_simp
          with_reducible rfl
        rotate_left
        · simp only [Act.put, List.setIfInBounds_toArray, List.set_cons_zero, List.set_cons_succ, i64_w, i32_w]
          rfl
        refine pure_ (i := 3) (N := some 6) (v := ?_) (a' := ?_) #[true, true, true, true, false, false, false, false, false, false, false, false, false, false] rfl rfl (any_of HT_.out (by kernel_rfl)) (fun _ _ _ h => h) (Or.inl ⟨by rfl, ?_⟩) ?_ ?_
        rotate_left
        · intro w'
          go_simp
          with_reducible rfl
        rotate_left
        · simp only [Act.put, List.setIfInBounds_toArray, List.set_cons_zero, List.set_cons_succ, i64_w, i32_w]
          rfl
        refine pure_ (i := 4) (N := some 7) (v := ?_) (a' := ?_) #[true, true, true, true, true, false, false, false, false, false, false, false, false, false] rfl rfl (any_of HT_.out (by kernel_rfl)) (fun _ _ _ h => h) (Or.inl ⟨by rfl, ?_⟩) ?_ ?_
        rotate_left
        · intro w'
          go_simp
          with_reducible rfl
        rotate_left
        · simp only [Act.put, List.setIfInBounds_toArray, List.set_cons_zero, List.set_cons_succ, i64_w, i32_w]
          rfl
        refine take_ (i := 5) (N := some 8) (v := ?_) (a' := ?_) #[true, true, true, true, true, true, false, false, false, false, false, false, false, false] rfl rfl (take_ofW HT_.out HW_.out (by kernel_rfl)) (fun _ _ _ h => h) (Or.inl ⟨by rfl, ?_⟩) hHeld ?_ ?_
        rotate_left
        · rintro w' ⟨s0, s1, s2, s3, s4, s5, s6, s7, s8, s9, s10⟩
          go_simp
          with_reducible rfl
        rotate_left
        · simp only [Act.put, List.setIfInBounds_toArray, List.set_cons_zero, List.set_cons_succ, i64_w, i32_w]
          rfl
        refine pure_ (i := 6) (N := some 9) (v := ?_) (a' := ?_) #[true, true, true, true, true, true, true, false, false, false, false, false, false, false] rfl rfl (any_of HT_.out (by kernel_rfl)) (fun _ _ _ h => h) (Or.inl ⟨by rfl, ?_⟩) ?_ ?_
        rotate_left
        · intro w'
          go_simp
          with_reducible rfl
        rotate_left
        · simp only [Act.put, List.setIfInBounds_toArray, List.set_cons_zero, List.set_cons_succ, i64_w, i32_w]
          rfl
        refine pure_ (i := 7) (N := some 10) (v := ?_) (a' := ?_) #[true, true, true, true, true, true, true, true, false, false, false, false, false, false] rfl rfl (any_of HT_.out (by kernel_rfl)) (fun _ _ _ h => h) (Or.inl ⟨by rfl, ?_⟩) ?_ ?_
        rotate_left
        · intro w'
          go_simp
          with_reducible rfl
        rotate_left
        · simp only [Act.put, List.setIfInBounds_toArray, List.set_cons_zero, List.set_cons_succ, i64_w, i32_w]
          rfl
        refine pure_ (i := 8) (N := some 11) (v := ?_) (a' := ?_) #[true, true, true, true, true, true, true, true, true, false, false, false, false, false] rfl rfl (any_of HT_.out (by kernel_rfl)) (fun _ _ _ h => h) (Or.inl ⟨by rfl, ?_⟩) ?_ ?_
        rotate_left
        · intro w'
          go_simp
          with_reducible rfl
        rotate_left
        · simp only [Act.put, List.setIfInBounds_toArray, List.set_cons_zero, List.set_cons_succ, i64_w, i32_w]
          rfl
        refine take_ (i := 9) (N := some 12) (v := ?_) (a' := ?_) #[true, true, true, true, true, true, true, true, true, true, false, false, false, false] rfl rfl (take_ofW HT_.out HW_.out (by kernel_rfl)) (fun _ _ _ h => h) (Or.inl ⟨by rfl, ?_⟩) hHeld ?_ ?_
        rotate_left
        · rintro w' ⟨s0, s1, s2, s3, s4, s5, s6, s7, s8, s9, s10⟩
          go_simp
          with_reducible rfl
        rotate_left
        · simp only [Act.put, List.setIfInBounds_toArray, List.set_cons_zero, List.set_cons_succ, i64_w, i32_w]
          rfl
        refine take_ (i := 10) (N := some 13) (v := ?_) (a' := ?_) #[true, true, true, true, true, true, true, true, true, true, true, false, false, false] rfl rfl (take_ofW HT_.out HW_.out (by kernel_rfl)) (fun _ _ _ h => h) (Or.inl ⟨by rfl, ?_⟩) hHeld ?_ ?_
        rotate_left
        · rintro w' ⟨s0, s1, s2, s3, s4, s5, s6, s7, s8, s9, s10⟩
          go_simp
          with_reducible rfl
        rotate_left
        · simp only [Act.put, List.setIfInBounds_toArray, List.set_cons_zero, List.set_cons_succ, i64_w, i32_w]
          rfl
        refine one_ (i := 11) (N := some 14) #[true, true, true, true, true, true, true, true, true, true, true, true, false, false] rfl rfl (one_of HT_.out (by kernel_rfl)) (by decide) (fun K hK => ?_)
        refine goes_ Tryd.func100 (by kernel_rfl) rfl #[.agg #[.int .i64 a0_0, .bool a0_1, .int .i64 a0_2, .int .u64 a0_3, .int .u64 a0_4, .string a0_5, .int .i64 a0_6, .bool a0_7, .bool a0_8, .int .i64 a0_9, .int .i64 a0_10]] (by rfl) rfl rfl (by (try simp only [List.map_toArray, List.map_cons, List.map_nil]); first | done | rfl | (simp only [List.length_drop, List.length_take]; rfl)) ?_
        with_reducible refine (spec_codBare.calls k a0_0 a0_1 a0_2 a0_3 a0_4 a0_5 a0_6 a0_7 a0_8 a0_9 a0_10 t134 t135 t136 t137 t138 t139 t140 t141 t142 t143 t144 _ A8.out).mono ?_
        rintro e w10 ⟨rfl, hb⟩
        refine ⟨_, rfl, ?_⟩
        have n0_ := Aside0.mk (blk_below (g := gb133) (o := .cells #[.int .i64 a0_0, .bool a0_1, .int .i64 a0_2, .int .u64 a0_3, .int .u64 a0_4, .string a0_5, .int .i64 a0_6, .bool a0_7, .bool a0_8, .int .i64 a0_9, .int .i64 a0_10] 37 (0, 0)) (by (with_reducible repeat (first | refine blk_drewN ?_ _ | refine blk_drew ?_ | refine blk_alloc ?_ _)); exact BK133.out) hb)
        have n1_ := Aside0.mk (below_step (by repeat (first | (with_reducible first | exact HB.out | apply below_alloc | apply pw_below_drewN | apply below_drew1 | refine below_set ?_ GE133.out) | exact HB.out)) hb)
        clear BK133
        clear HB
        have BK133 := n0_
        have HB := n1_
        clear n0_ n1_
        (try clear hb)
        (try clear hb2)
        (try clear hk)
        (try clear hi)
        refine hK.out _ _ ⟨(blk_cell BK133.out 0).trans rfl, (blk_cell BK133.out 1).trans rfl, (blk_cell BK133.out 2).trans rfl, (blk_cell BK133.out 3).trans rfl, (blk_cell BK133.out 4).trans rfl, (blk_cell BK133.out 5).trans rfl, (blk_cell BK133.out 6).trans rfl, (blk_cell BK133.out 7).trans rfl, (blk_cell BK133.out 8).trans rfl, (blk_cell BK133.out 9).trans rfl, (blk_cell BK133.out 10).trans rfl⟩ (fun hHeld => ?_)
        clear hK K
        refine norm_ (a' := ?_) ?_ ?_
        rotate_left
        · show Act.put _ (some 14) _ = _
          simp only [Act.put, List.setIfInBounds_toArray, List.set_cons_zero, List.set_cons_succ, i64_w, i32_w]
          rfl
        refine pure_ (i := 12) (N := some 15) (v := .bool (!(a0_0 == t134) || (!(a0_1 == t135) || (!(a0_2 == t136) || (!(a0_3 == t137) || (!(a0_4 == t138) || (!(a0_5.toList == t139.toList) || (!(a0_6 == t140) || (!(a0_7 == t141) || (!(a0_8 == t142) || (!(a0_9 == t143) || (!(a0_10 == t144))))))))))))) (a' := ?_) #[true, true, true, true, true, true, true, true, true, true, true, true, true, false] rfl rfl (any_of HT_.out (by kernel_rfl)) (fun _ _ _ h => h) (Or.inl ⟨by rfl, ?_⟩) ?_ ?_
        · intro w'
          go_simp
          exact ifo (ifo (ifo (ifo (ifo (ifo (ifo (ifo (ifo (ifo ifl)))))))))
        rotate_left
        · simp only [Act.put, List.setIfInBounds_toArray, List.set_cons_zero, List.set_cons_succ, i64_w, i32_w]
          rfl
        refine pure_ (i := 13) (N := some 16) (v := ?_) (a' := ?_) #[true, true, true, true, true, true, true, true, true, true, true, true, true, true] rfl rfl (any_of HT_.out (by kernel_rfl)) (fun _ _ _ h => h) (Or.inl ⟨by rfl, ?_⟩) ?_ ?_
        rotate_left
        · intro w'
          go_simp
          with_reducible rfl
        rotate_left
        · simp only [Act.put, List.setIfInBounds_toArray, List.set_cons_zero, List.set_cons_succ, i64_w, i32_w]
          rfl
        refine done_ (done_of HT_.out (by kernel_rfl)) ?_
        try go_wp2
        go_meet
        case rel => exact ⟨_, ((!(a0_0 == t134) || (!(a0_1 == t135) || (!(a0_2 == t136) || (!(a0_3 == t137) || (!(a0_4 == t138) || (!(a0_5.toList == t139.toList) || ((!(a0_6 == t140) || (!(a0_7 == t141) || (!(a0_8 == t142) || (!(a0_9 == t143) || (!(a0_10 == t144)))))))))))))), (by first | rfl | (simp; done) | (simp [*]; done)), H', ⟨by first | omega | exact Nat.le_refl _⟩, ⟨by (with_reducible repeat (first | refine blk_drewN ?_ _ | refine blk_drew ?_ | refine blk_alloc ?_ _)); exact BK133.out⟩, ⟨by repeat (first | (with_reducible first | exact HB.out | apply below_alloc | apply pw_below_drewN | apply below_drew1 | refine below_set ?_ GE133.out) | exact HB.out)⟩⟩
  case rest =>
    clear HC2
    try clear c1
    try clear p2
    try clear c4
    try clear c4b0
    try clear c6
    try clear c6b0
    try clear c10
    obtain ⟨kq, x16_1, rfl, HA, HJ1, BK133, HB⟩ := hcut
    cases kq with
    | zero => exact absurd HA.out (by simp [spec_CodClean.j0])
    | succ kj1 =>
      have H := HA.out
      clear HA
      simp only [spec_CodClean.j0] at H
      by_cases c11 : x16_1 = true
      · subst c11
        have H1 : (some false) = some r := by rw [if_pos rfl] at H; exact H
        clear H
        have H := H1
        clear H1
        obtain rfl := Option.some.inj H
        go_wp2
        go_ret
        exact ⟨by first | rfl | (simp [errW_none, errW_some] <;> rfl) | (simp [*, errW_none, errW_some] <;> rfl), by repeat (first | (with_reducible first | exact HB.out | apply below_alloc | apply pw_below_drewN | apply below_drew1 | refine below_set ?_ GE133.out) | exact HB.out)⟩
      · replace c11 := Bool.eq_false_iff.mpr c11
        subst c11
        have H1 : (if a0_0 = 1 then (if a0_2 ≥ 0 then (some (decide (a0_2 ≤ 255))) else (some false)) else (if a0_0 = 2 then (spec_CodClean.j1 kj1 a0_0 (a0_0 == 2) a0_0 a0_1 a0_2 a0_3 a0_4 a0_5 a0_6 a0_7 a0_8 a0_9 a0_10) else (spec_CodClean.j1 kj1 a0_0 (a0_0 == 8) a0_0 a0_1 a0_2 a0_3 a0_4 a0_5 a0_6 a0_7 a0_8 a0_9 a0_10))) = some r := by rw [if_neg (show ¬ (false = true) by decide)] at H; exact H
        clear H
        have H := H1
        clear H1
        by_cases c12 : a0_0 = 1
        · rw [if_pos c12] at H
          have c12b0 : (a0_0 == 1) = true := beq_iff_eq.mpr c12
          have c12b1 : (a0_0 != 1) = false := bne_eq_false_iff_eq.mpr c12
          clear c12
          by_cases c13 : a0_2 ≥ 0
          · rw [if_pos c13] at H
            have c13b0 : decide (0 ≤ a0_2) = true := decide_eq_true c13
            clear c13
            obtain rfl := Option.some.inj H
            have hcz14_0 : wc.cell? ⟨gb133, 0, none⟩ = some (.int .i64 a0_0) := (blk_cell BK133.out 0).trans rfl
            have hcz14_1 : wc.cell? ⟨gb133, 1, none⟩ = some (.bool a0_1) := (blk_cell BK133.out 1).trans rfl
            have hcz14_2 : wc.cell? ⟨gb133, 2, none⟩ = some (.int .i64 a0_2) := (blk_cell BK133.out 2).trans rfl
            have hcz14_3 : wc.cell? ⟨gb133, 3, none⟩ = some (.int .u64 a0_3) := (blk_cell BK133.out 3).trans rfl
            have hcz14_4 : wc.cell? ⟨gb133, 4, none⟩ = some (.int .u64 a0_4) := (blk_cell BK133.out 4).trans rfl
            have hcz14_5 : wc.cell? ⟨gb133, 5, none⟩ = some (.string a0_5) := (blk_cell BK133.out 5).trans rfl
            have hcz14_6 : wc.cell? ⟨gb133, 6, none⟩ = some (.int .i64 a0_6) := (blk_cell BK133.out 6).trans rfl
            have hcz14_7 : wc.cell? ⟨gb133, 7, none⟩ = some (.bool a0_7) := (blk_cell BK133.out 7).trans rfl
            have hcz14_8 : wc.cell? ⟨gb133, 8, none⟩ = some (.bool a0_8) := (blk_cell BK133.out 8).trans rfl
            have hcz14_9 : wc.cell? ⟨gb133, 9, none⟩ = some (.int .i64 a0_9) := (blk_cell BK133.out 9).trans rfl
            have hcz14_10 : wc.cell? ⟨gb133, 10, none⟩ = some (.int .i64 a0_10) := (blk_cell BK133.out 10).trans rfl
            have hfz14_0 := blk_frozen BK133.out 0
            have hfz14_1 := blk_frozen BK133.out 1
            have hfz14_2 := blk_frozen BK133.out 2
            have hfz14_3 := blk_frozen BK133.out 3
            have hfz14_4 := blk_frozen BK133.out 4
            have hfz14_5 := blk_frozen BK133.out 5
            have hfz14_6 := blk_frozen BK133.out 6
            have hfz14_7 := blk_frozen BK133.out 7
            have hfz14_8 := blk_frozen BK133.out 8
            have hfz14_9 := blk_frozen BK133.out 9
            have hfz14_10 := blk_frozen BK133.out 10
            go_wp2
            go_ret
            exact ⟨by first | rfl | (simp [errW_none, errW_some] <;> rfl) | (simp [*, errW_none, errW_some] <;> rfl), by repeat (first | (with_reducible first | exact HB.out | apply below_alloc | apply pw_below_drewN | apply below_drew1 | refine below_set ?_ GE133.out) | exact HB.out)⟩
          · rw [if_neg c13] at H
            have c13b0 : decide (0 ≤ a0_2) = false := decide_eq_false c13
            clear c13
            obtain rfl := Option.some.inj H
            have hcz15_0 : wc.cell? ⟨gb133, 0, none⟩ = some (.int .i64 a0_0) := (blk_cell BK133.out 0).trans rfl
            have hcz15_1 : wc.cell? ⟨gb133, 1, none⟩ = some (.bool a0_1) := (blk_cell BK133.out 1).trans rfl
            have hcz15_2 : wc.cell? ⟨gb133, 2, none⟩ = some (.int .i64 a0_2) := (blk_cell BK133.out 2).trans rfl
            have hcz15_3 : wc.cell? ⟨gb133, 3, none⟩ = some (.int .u64 a0_3) := (blk_cell BK133.out 3).trans rfl
            have hcz15_4 : wc.cell? ⟨gb133, 4, none⟩ = some (.int .u64 a0_4) := (blk_cell BK133.out 4).trans rfl
            have hcz15_5 : wc.cell? ⟨gb133, 5, none⟩ = some (.string a0_5) := (blk_cell BK133.out 5).trans rfl
            have hcz15_6 : wc.cell? ⟨gb133, 6, none⟩ = some (.int .i64 a0_6) := (blk_cell BK133.out 6).trans rfl
            have hcz15_7 : wc.cell? ⟨gb133, 7, none⟩ = some (.bool a0_7) := (blk_cell BK133.out 7).trans rfl
            have hcz15_8 : wc.cell? ⟨gb133, 8, none⟩ = some (.bool a0_8) := (blk_cell BK133.out 8).trans rfl
            have hcz15_9 : wc.cell? ⟨gb133, 9, none⟩ = some (.int .i64 a0_9) := (blk_cell BK133.out 9).trans rfl
            have hcz15_10 : wc.cell? ⟨gb133, 10, none⟩ = some (.int .i64 a0_10) := (blk_cell BK133.out 10).trans rfl
            have hfz15_0 := blk_frozen BK133.out 0
            have hfz15_1 := blk_frozen BK133.out 1
            have hfz15_2 := blk_frozen BK133.out 2
            have hfz15_3 := blk_frozen BK133.out 3
            have hfz15_4 := blk_frozen BK133.out 4
            have hfz15_5 := blk_frozen BK133.out 5
            have hfz15_6 := blk_frozen BK133.out 6
            have hfz15_7 := blk_frozen BK133.out 7
            have hfz15_8 := blk_frozen BK133.out 8
            have hfz15_9 := blk_frozen BK133.out 9
            have hfz15_10 := blk_frozen BK133.out 10
            go_wp2
            go_ret
            exact ⟨by first | rfl | (simp [errW_none, errW_some] <;> rfl) | (simp [*, errW_none, errW_some] <;> rfl), by repeat (first | (with_reducible first | exact HB.out | apply below_alloc | apply pw_below_drewN | apply below_drew1 | refine below_set ?_ GE133.out) | exact HB.out)⟩
        · rw [if_neg c12] at H
          have c12b0 : (a0_0 == 1) = false := beq_eq_false_iff_ne.mpr c12
          have c12b1 : (a0_0 != 1) = true := bne_iff_ne.mpr c12
          have HC16 := Aside0.mk H
          clear H
          have hcz17_0 : wc.cell? ⟨gb133, 0, none⟩ = some (.int .i64 a0_0) := (blk_cell BK133.out 0).trans rfl
          have hcz17_1 : wc.cell? ⟨gb133, 1, none⟩ = some (.bool a0_1) := (blk_cell BK133.out 1).trans rfl
          have hcz17_2 : wc.cell? ⟨gb133, 2, none⟩ = some (.int .i64 a0_2) := (blk_cell BK133.out 2).trans rfl
          have hcz17_3 : wc.cell? ⟨gb133, 3, none⟩ = some (.int .u64 a0_3) := (blk_cell BK133.out 3).trans rfl
          have hcz17_4 : wc.cell? ⟨gb133, 4, none⟩ = some (.int .u64 a0_4) := (blk_cell BK133.out 4).trans rfl
          have hcz17_5 : wc.cell? ⟨gb133, 5, none⟩ = some (.string a0_5) := (blk_cell BK133.out 5).trans rfl
          have hcz17_6 : wc.cell? ⟨gb133, 6, none⟩ = some (.int .i64 a0_6) := (blk_cell BK133.out 6).trans rfl
          have hcz17_7 : wc.cell? ⟨gb133, 7, none⟩ = some (.bool a0_7) := (blk_cell BK133.out 7).trans rfl
          have hcz17_8 : wc.cell? ⟨gb133, 8, none⟩ = some (.bool a0_8) := (blk_cell BK133.out 8).trans rfl
          have hcz17_9 : wc.cell? ⟨gb133, 9, none⟩ = some (.int .i64 a0_9) := (blk_cell BK133.out 9).trans rfl
          have hcz17_10 : wc.cell? ⟨gb133, 10, none⟩ = some (.int .i64 a0_10) := (blk_cell BK133.out 10).trans rfl
          have hfz17_0 := blk_frozen BK133.out 0
          have hfz17_1 := blk_frozen BK133.out 1
          have hfz17_2 := blk_frozen BK133.out 2
          have hfz17_3 := blk_frozen BK133.out 3
          have hfz17_4 := blk_frozen BK133.out 4
          have hfz17_5 := blk_frozen BK133.out 5
          have hfz17_6 := blk_frozen BK133.out 6
          have hfz17_7 := blk_frozen BK133.out 7
          have hfz17_8 := blk_frozen BK133.out 8
          have hfz17_9 := blk_frozen BK133.out 9
          have hfz17_10 := blk_frozen BK133.out 10
          go_upto_if 29 with (fail)
          go_cut [29] (fun v29 wc => ∃ (kq : Nat) (x29_15 : Bool), v29 = .bool x29_15 ∧ Aside0 (spec_CodClean.j1 kq a0_0 x29_15 a0_0 a0_1 a0_2 a0_3 a0_4 a0_5 a0_6 a0_7 a0_8 a0_9 a0_10 = some r) ∧ Aside0 (kq ≤ kj1) ∧ Aside0 (wc.heap[gb133]? = some (.cells #[.int .i64 a0_0, .bool a0_1, .int .i64 a0_2, .int .u64 a0_3, .int .u64 a0_4, .string a0_5, .int .i64 a0_6, .bool a0_7, .bool a0_8, .int .i64 a0_9, .int .i64 a0_10] 37 (0, 0))) ∧ Aside0 (Below w.heap.size w wc))
          case first =>
            have H := HC16.out
            clear HC16
            by_cases c18 : a0_0 = 2
            · rw [if_pos c18] at H
              have c18b0 : (a0_0 == 2) = true := beq_iff_eq.mpr c18
              have c18b1 : (a0_0 != 2) = false := bne_eq_false_iff_eq.mpr c18
              clear c18
              (first | rw [c18b0] | (simp only [i64_w, i32_w]; rw [c18b0]) | skip)
              have H' := Aside0.mk H
              clear H
              go_wp2
              go_meet
              case rel => exact ⟨_, ((a0_0 == 2)), (by first | rfl | (simp; done) | (simp [*]; done)), H', ⟨by have := HJ1.out; first | omega | exact Nat.le_refl _⟩, ⟨by (with_reducible repeat (first | refine blk_drewN ?_ _ | refine blk_drew ?_ | refine blk_alloc ?_ _)); exact BK133.out⟩, ⟨by repeat (first | (with_reducible first | exact HB.out | apply below_alloc | apply pw_below_drewN | apply below_drew1 | refine below_set ?_ GE133.out) | exact HB.out)⟩⟩
            · rw [if_neg c18] at H
              have c18b0 : (a0_0 == 2) = false := beq_eq_false_iff_ne.mpr c18
              have c18b1 : (a0_0 != 2) = true := bne_iff_ne.mpr c18
              (first | rw [c18b0] | (simp only [i64_w, i32_w]; rw [c18b0]) | skip)
              have H' := Aside0.mk H
              clear H
              go_wp2
              go_meet
              case rel => exact ⟨_, ((a0_0 == 8)), (by first | rfl | (simp; done) | (simp [*]; done)), H', ⟨by have := HJ1.out; first | omega | exact Nat.le_refl _⟩, ⟨by (with_reducible repeat (first | refine blk_drewN ?_ _ | refine blk_drew ?_ | refine blk_alloc ?_ _)); exact BK133.out⟩, ⟨by repeat (first | (with_reducible first | exact HB.out | apply below_alloc | apply pw_below_drewN | apply below_drew1 | refine below_set ?_ GE133.out) | exact HB.out)⟩⟩
          case rest =>
            clear HC16
            try clear c1
            try clear p2
            try clear c4
            try clear c4b0
            try clear c6
            try clear c6b0
            try clear c10
            try clear c11
            try clear c12
            try clear c12b0
            try clear c12b1
            try clear c13
            try clear c13b0
            try clear c18
            try clear c18b0
            try clear c18b1
            try clear hcz14_0
            try clear hcz14_1
            try clear hcz14_10
            try clear hcz14_2
            try clear hcz14_3
            try clear hcz14_4
            try clear hcz14_5
            try clear hcz14_6
            try clear hcz14_7
            try clear hcz14_8
            try clear hcz14_9
            try clear hcz15_0
            try clear hcz15_1
            try clear hcz15_10
            try clear hcz15_2
            try clear hcz15_3
            try clear hcz15_4
            try clear hcz15_5
            try clear hcz15_6
            try clear hcz15_7
            try clear hcz15_8
            try clear hcz15_9
            try clear hcz17_0
            try clear hcz17_1
            try clear hcz17_10
            try clear hcz17_2
            try clear hcz17_3
            try clear hcz17_4
            try clear hcz17_5
            try clear hcz17_6
            try clear hcz17_7
            try clear hcz17_8
            try clear hcz17_9
            try clear hfz14_0
            try clear hfz14_1
            try clear hfz14_10
            try clear hfz14_2
            try clear hfz14_3
            try clear hfz14_4
            try clear hfz14_5
            try clear hfz14_6
            try clear hfz14_7
            try clear hfz14_8
            try clear hfz14_9
            try clear hfz15_0
            try clear hfz15_1
            try clear hfz15_10
            try clear hfz15_2
            try clear hfz15_3
            try clear hfz15_4
            try clear hfz15_5
            try clear hfz15_6
            try clear hfz15_7
            try clear hfz15_8
            try clear hfz15_9
            try clear hfz17_0
            try clear hfz17_1
            try clear hfz17_10
            try clear hfz17_2
            try clear hfz17_3
            try clear hfz17_4
            try clear hfz17_5
            try clear hfz17_6
            try clear hfz17_7
            try clear hfz17_8
            try clear hfz17_9
            try clear p2
            obtain ⟨kq, x29_15, rfl, HA, HJ15, BK133, HB⟩ := hcut
            cases kq with
            | zero => exact absurd HA.out (by simp [spec_CodClean.j1])
            | succ kj15 =>
              have H := HA.out
              clear HA
              simp only [spec_CodClean.j1] at H
              by_cases c19 : x29_15 = true
              · subst c19
                have H1 : (some (decide ((a0_5.size : Int) ≤ 300))) = some r := by rw [if_pos rfl] at H; exact H
                clear H
                have H := H1
                clear H1
                obtain rfl := Option.some.inj H
                have hcz20_0 : wc.cell? ⟨gb133, 0, none⟩ = some (.int .i64 a0_0) := (blk_cell BK133.out 0).trans rfl
                have hcz20_1 : wc.cell? ⟨gb133, 1, none⟩ = some (.bool a0_1) := (blk_cell BK133.out 1).trans rfl
                have hcz20_2 : wc.cell? ⟨gb133, 2, none⟩ = some (.int .i64 a0_2) := (blk_cell BK133.out 2).trans rfl
                have hcz20_3 : wc.cell? ⟨gb133, 3, none⟩ = some (.int .u64 a0_3) := (blk_cell BK133.out 3).trans rfl
                have hcz20_4 : wc.cell? ⟨gb133, 4, none⟩ = some (.int .u64 a0_4) := (blk_cell BK133.out 4).trans rfl
                have hcz20_5 : wc.cell? ⟨gb133, 5, none⟩ = some (.string a0_5) := (blk_cell BK133.out 5).trans rfl
                have hcz20_6 : wc.cell? ⟨gb133, 6, none⟩ = some (.int .i64 a0_6) := (blk_cell BK133.out 6).trans rfl
                have hcz20_7 : wc.cell? ⟨gb133, 7, none⟩ = some (.bool a0_7) := (blk_cell BK133.out 7).trans rfl
                have hcz20_8 : wc.cell? ⟨gb133, 8, none⟩ = some (.bool a0_8) := (blk_cell BK133.out 8).trans rfl
                have hcz20_9 : wc.cell? ⟨gb133, 9, none⟩ = some (.int .i64 a0_9) := (blk_cell BK133.out 9).trans rfl
                have hcz20_10 : wc.cell? ⟨gb133, 10, none⟩ = some (.int .i64 a0_10) := (blk_cell BK133.out 10).trans rfl
                have hfz20_0 := blk_frozen BK133.out 0
                have hfz20_1 := blk_frozen BK133.out 1
                have hfz20_2 := blk_frozen BK133.out 2
                have hfz20_3 := blk_frozen BK133.out 3
                have hfz20_4 := blk_frozen BK133.out 4
                have hfz20_5 := blk_frozen BK133.out 5
                have hfz20_6 := blk_frozen BK133.out 6
                have hfz20_7 := blk_frozen BK133.out 7
                have hfz20_8 := blk_frozen BK133.out 8
                have hfz20_9 := blk_frozen BK133.out 9
                have hfz20_10 := blk_frozen BK133.out 10
                go_wp2
                go_ret
                exact ⟨by first | rfl | (simp [errW_none, errW_some] <;> rfl) | (simp [*, errW_none, errW_some] <;> rfl), by repeat (first | (with_reducible first | exact HB.out | apply below_alloc | apply pw_below_drewN | apply below_drew1 | refine below_set ?_ GE133.out) | exact HB.out)⟩
              · replace c19 := Bool.eq_false_iff.mpr c19
                subst c19
                have H1 : (if a0_0 = 3 then (if (Go.bits .and .u64 (a0_4 / 4503599627370496) 2047) = 2047 then (some ((IntKind.u64.wrap (a0_4 * 4096)) == 0)) else (some true)) else (if a0_0 = 7 then (if a0_4 < 4294967296 then (if (Go.bits .and .u64 (a0_4 / 8388608) 255) = 255 then (some ((Go.bits .and .u64 a0_4 8388607) == 0)) else (some true)) else (some false)) else (if a0_0 = 5 then (some (a0_2 == (wrap64 (wrap32 (a0_2))))) else (if a0_0 = 9 then (some (decide (a0_3 < 4294967296))) else (if a0_0 = 6 then ((spec_CodPaneIs.f a0_6 a0_7 a0_8 a0_9 a0_10).bind fun t145 => (some t145)) else (some true)))))) = some r := by rw [if_neg (show ¬ (false = true) by decide)] at H; exact H
                clear H
                have H := H1
                clear H1
                by_cases c21 : a0_0 = 3
                · rw [if_pos c21] at H
                  have c21b0 : (a0_0 == 3) = true := beq_iff_eq.mpr c21
                  have c21b1 : (a0_0 != 3) = false := bne_eq_false_iff_eq.mpr c21
                  clear c21
                  by_cases c22 : (Go.bits .and .u64 (a0_4 / 4503599627370496) 2047) = 2047
                  · rw [if_pos c22] at H
                    have c22b0 : ((Go.bits .and .u64 (a0_4 / 4503599627370496) 2047) == 2047) = true := beq_iff_eq.mpr c22
                    have c22b1 : ((Go.bits .and .u64 (a0_4 / 4503599627370496) 2047) != 2047) = false := bne_eq_false_iff_eq.mpr c22
                    clear c22
                    obtain rfl := Option.some.inj H
                    have hcz23_0 : wc.cell? ⟨gb133, 0, none⟩ = some (.int .i64 a0_0) := (blk_cell BK133.out 0).trans rfl
                    have hcz23_1 : wc.cell? ⟨gb133, 1, none⟩ = some (.bool a0_1) := (blk_cell BK133.out 1).trans rfl
                    have hcz23_2 : wc.cell? ⟨gb133, 2, none⟩ = some (.int .i64 a0_2) := (blk_cell BK133.out 2).trans rfl
                    have hcz23_3 : wc.cell? ⟨gb133, 3, none⟩ = some (.int .u64 a0_3) := (blk_cell BK133.out 3).trans rfl
                    have hcz23_4 : wc.cell? ⟨gb133, 4, none⟩ = some (.int .u64 a0_4) := (blk_cell BK133.out 4).trans rfl
                    have hcz23_5 : wc.cell? ⟨gb133, 5, none⟩ = some (.string a0_5) := (blk_cell BK133.out 5).trans rfl
                    have hcz23_6 : wc.cell? ⟨gb133, 6, none⟩ = some (.int .i64 a0_6) := (blk_cell BK133.out 6).trans rfl
                    have hcz23_7 : wc.cell? ⟨gb133, 7, none⟩ = some (.bool a0_7) := (blk_cell BK133.out 7).trans rfl
                    have hcz23_8 : wc.cell? ⟨gb133, 8, none⟩ = some (.bool a0_8) := (blk_cell BK133.out 8).trans rfl
                    have hcz23_9 : wc.cell? ⟨gb133, 9, none⟩ = some (.int .i64 a0_9) := (blk_cell BK133.out 9).trans rfl
                    have hcz23_10 : wc.cell? ⟨gb133, 10, none⟩ = some (.int .i64 a0_10) := (blk_cell BK133.out 10).trans rfl
                    have hfz23_0 := blk_frozen BK133.out 0
                    have hfz23_1 := blk_frozen BK133.out 1
                    have hfz23_2 := blk_frozen BK133.out 2
                    have hfz23_3 := blk_frozen BK133.out 3
                    have hfz23_4 := blk_frozen BK133.out 4
                    have hfz23_5 := blk_frozen BK133.out 5
                    have hfz23_6 := blk_frozen BK133.out 6
                    have hfz23_7 := blk_frozen BK133.out 7
                    have hfz23_8 := blk_frozen BK133.out 8
                    have hfz23_9 := blk_frozen BK133.out 9
                    have hfz23_10 := blk_frozen BK133.out 10
                    go_wp2
                    go_ret
                    exact ⟨by first | rfl | (simp [errW_none, errW_some] <;> rfl) | (simp [*, errW_none, errW_some] <;> rfl), by repeat (first | (with_reducible first | exact HB.out | apply below_alloc | apply pw_below_drewN | apply below_drew1 | refine below_set ?_ GE133.out) | exact HB.out)⟩
                  · rw [if_neg c22] at H
                    have c22b0 : ((Go.bits .and .u64 (a0_4 / 4503599627370496) 2047) == 2047) = false := beq_eq_false_iff_ne.mpr c22
                    have c22b1 : ((Go.bits .and .u64 (a0_4 / 4503599627370496) 2047) != 2047) = true := bne_iff_ne.mpr c22
                    obtain rfl := Option.some.inj H
                    have hcz24_0 : wc.cell? ⟨gb133, 0, none⟩ = some (.int .i64 a0_0) := (blk_cell BK133.out 0).trans rfl
                    have hcz24_1 : wc.cell? ⟨gb133, 1, none⟩ = some (.bool a0_1) := (blk_cell BK133.out 1).trans rfl
                    have hcz24_2 : wc.cell? ⟨gb133, 2, none⟩ = some (.int .i64 a0_2) := (blk_cell BK133.out 2).trans rfl
                    have hcz24_3 : wc.cell? ⟨gb133, 3, none⟩ = some (.int .u64 a0_3) := (blk_cell BK133.out 3).trans rfl
                    have hcz24_4 : wc.cell? ⟨gb133, 4, none⟩ = some (.int .u64 a0_4) := (blk_cell BK133.out 4).trans rfl
                    have hcz24_5 : wc.cell? ⟨gb133, 5, none⟩ = some (.string a0_5) := (blk_cell BK133.out 5).trans rfl
                    have hcz24_6 : wc.cell? ⟨gb133, 6, none⟩ = some (.int .i64 a0_6) := (blk_cell BK133.out 6).trans rfl
                    have hcz24_7 : wc.cell? ⟨gb133, 7, none⟩ = some (.bool a0_7) := (blk_cell BK133.out 7).trans rfl
                    have hcz24_8 : wc.cell? ⟨gb133, 8, none⟩ = some (.bool a0_8) := (blk_cell BK133.out 8).trans rfl
                    have hcz24_9 : wc.cell? ⟨gb133, 9, none⟩ = some (.int .i64 a0_9) := (blk_cell BK133.out 9).trans rfl
                    have hcz24_10 : wc.cell? ⟨gb133, 10, none⟩ = some (.int .i64 a0_10) := (blk_cell BK133.out 10).trans rfl
                    have hfz24_0 := blk_frozen BK133.out 0
                    have hfz24_1 := blk_frozen BK133.out 1
                    have hfz24_2 := blk_frozen BK133.out 2
                    have hfz24_3 := blk_frozen BK133.out 3
                    have hfz24_4 := blk_frozen BK133.out 4
                    have hfz24_5 := blk_frozen BK133.out 5
                    have hfz24_6 := blk_frozen BK133.out 6
                    have hfz24_7 := blk_frozen BK133.out 7
                    have hfz24_8 := blk_frozen BK133.out 8
                    have hfz24_9 := blk_frozen BK133.out 9
                    have hfz24_10 := blk_frozen BK133.out 10
                    go_wp2
                    go_ret
                    exact ⟨by first | rfl | (simp [errW_none, errW_some] <;> rfl) | (simp [*, errW_none, errW_some] <;> rfl), by repeat (first | (with_reducible first | exact HB.out | apply below_alloc | apply pw_below_drewN | apply below_drew1 | refine below_set ?_ GE133.out) | exact HB.out)⟩
                · rw [if_neg c21] at H
                  have c21b0 : (a0_0 == 3) = false := beq_eq_false_iff_ne.mpr c21
                  have c21b1 : (a0_0 != 3) = true := bne_iff_ne.mpr c21
                  by_cases c25 : a0_0 = 7
                  · rw [if_pos c25] at H
                    have c25b0 : (a0_0 == 7) = true := beq_iff_eq.mpr c25
                    have c25b1 : (a0_0 != 7) = false := bne_eq_false_iff_eq.mpr c25
                    clear c25
                    by_cases c26 : a0_4 < 4294967296
                    · rw [if_pos c26] at H
                      have c26b0 : decide (a0_4 < 4294967296) = true := decide_eq_true c26
                      clear c26
                      by_cases c27 : (Go.bits .and .u64 (a0_4 / 8388608) 255) = 255
                      · rw [if_pos c27] at H
                        have c27b0 : ((Go.bits .and .u64 (a0_4 / 8388608) 255) == 255) = true := beq_iff_eq.mpr c27
                        have c27b1 : ((Go.bits .and .u64 (a0_4 / 8388608) 255) != 255) = false := bne_eq_false_iff_eq.mpr c27
                        clear c27
                        obtain rfl := Option.some.inj H
                        have hcz28_0 : wc.cell? ⟨gb133, 0, none⟩ = some (.int .i64 a0_0) := (blk_cell BK133.out 0).trans rfl
                        have hcz28_1 : wc.cell? ⟨gb133, 1, none⟩ = some (.bool a0_1) := (blk_cell BK133.out 1).trans rfl
                        have hcz28_2 : wc.cell? ⟨gb133, 2, none⟩ = some (.int .i64 a0_2) := (blk_cell BK133.out 2).trans rfl
                        have hcz28_3 : wc.cell? ⟨gb133, 3, none⟩ = some (.int .u64 a0_3) := (blk_cell BK133.out 3).trans rfl
                        have hcz28_4 : wc.cell? ⟨gb133, 4, none⟩ = some (.int .u64 a0_4) := (blk_cell BK133.out 4).trans rfl
                        have hcz28_5 : wc.cell? ⟨gb133, 5, none⟩ = some (.string a0_5) := (blk_cell BK133.out 5).trans rfl
                        have hcz28_6 : wc.cell? ⟨gb133, 6, none⟩ = some (.int .i64 a0_6) := (blk_cell BK133.out 6).trans rfl
                        have hcz28_7 : wc.cell? ⟨gb133, 7, none⟩ = some (.bool a0_7) := (blk_cell BK133.out 7).trans rfl
                        have hcz28_8 : wc.cell? ⟨gb133, 8, none⟩ = some (.bool a0_8) := (blk_cell BK133.out 8).trans rfl
                        have hcz28_9 : wc.cell? ⟨gb133, 9, none⟩ = some (.int .i64 a0_9) := (blk_cell BK133.out 9).trans rfl
                        have hcz28_10 : wc.cell? ⟨gb133, 10, none⟩ = some (.int .i64 a0_10) := (blk_cell BK133.out 10).trans rfl
                        have hfz28_0 := blk_frozen BK133.out 0
                        have hfz28_1 := blk_frozen BK133.out 1
                        have hfz28_2 := blk_frozen BK133.out 2
                        have hfz28_3 := blk_frozen BK133.out 3
                        have hfz28_4 := blk_frozen BK133.out 4
                        have hfz28_5 := blk_frozen BK133.out 5
                        have hfz28_6 := blk_frozen BK133.out 6
                        have hfz28_7 := blk_frozen BK133.out 7
                        have hfz28_8 := blk_frozen BK133.out 8
                        have hfz28_9 := blk_frozen BK133.out 9
                        have hfz28_10 := blk_frozen BK133.out 10
                        go_wp2
                        go_ret
                        exact ⟨by first | rfl | (simp [errW_none, errW_some] <;> rfl) | (simp [*, errW_none, errW_some] <;> rfl), by repeat (first | (with_reducible first | exact HB.out | apply below_alloc | apply pw_below_drewN | apply below_drew1 | refine below_set ?_ GE133.out) | exact HB.out)⟩
                      · rw [if_neg c27] at H
                        have c27b0 : ((Go.bits .and .u64 (a0_4 / 8388608) 255) == 255) = false := beq_eq_false_iff_ne.mpr c27
                        have c27b1 : ((Go.bits .and .u64 (a0_4 / 8388608) 255) != 255) = true := bne_iff_ne.mpr c27
                        obtain rfl := Option.some.inj H
                        have hcz29_0 : wc.cell? ⟨gb133, 0, none⟩ = some (.int .i64 a0_0) := (blk_cell BK133.out 0).trans rfl
                        have hcz29_1 : wc.cell? ⟨gb133, 1, none⟩ = some (.bool a0_1) := (blk_cell BK133.out 1).trans rfl
                        have hcz29_2 : wc.cell? ⟨gb133, 2, none⟩ = some (.int .i64 a0_2) := (blk_cell BK133.out 2).trans rfl
                        have hcz29_3 : wc.cell? ⟨gb133, 3, none⟩ = some (.int .u64 a0_3) := (blk_cell BK133.out 3).trans rfl
                        have hcz29_4 : wc.cell? ⟨gb133, 4, none⟩ = some (.int .u64 a0_4) := (blk_cell BK133.out 4).trans rfl
                        have hcz29_5 : wc.cell? ⟨gb133, 5, none⟩ = some (.string a0_5) := (blk_cell BK133.out 5).trans rfl
                        have hcz29_6 : wc.cell? ⟨gb133, 6, none⟩ = some (.int .i64 a0_6) := (blk_cell BK133.out 6).trans rfl
                        have hcz29_7 : wc.cell? ⟨gb133, 7, none⟩ = some (.bool a0_7) := (blk_cell BK133.out 7).trans rfl
                        have hcz29_8 : wc.cell? ⟨gb133, 8, none⟩ = some (.bool a0_8) := (blk_cell BK133.out 8).trans rfl
                        have hcz29_9 : wc.cell? ⟨gb133, 9, none⟩ = some (.int .i64 a0_9) := (blk_cell BK133.out 9).trans rfl
                        have hcz29_10 : wc.cell? ⟨gb133, 10, none⟩ = some (.int .i64 a0_10) := (blk_cell BK133.out 10).trans rfl
                        have hfz29_0 := blk_frozen BK133.out 0
                        have hfz29_1 := blk_frozen BK133.out 1
                        have hfz29_2 := blk_frozen BK133.out 2
                        have hfz29_3 := blk_frozen BK133.out 3
                        have hfz29_4 := blk_frozen BK133.out 4
                        have hfz29_5 := blk_frozen BK133.out 5
                        have hfz29_6 := blk_frozen BK133.out 6
                        have hfz29_7 := blk_frozen BK133.out 7
                        have hfz29_8 := blk_frozen BK133.out 8
                        have hfz29_9 := blk_frozen BK133.out 9
                        have hfz29_10 := blk_frozen BK133.out 10
                        go_wp2
                        go_ret
                        exact ⟨by first | rfl | (simp [errW_none, errW_some] <;> rfl) | (simp [*, errW_none, errW_some] <;> rfl), by repeat (first | (with_reducible first | exact HB.out | apply below_alloc | apply pw_below_drewN | apply below_drew1 | refine below_set ?_ GE133.out) | exact HB.out)⟩
                    · rw [if_neg c26] at H
                      have c26b0 : decide (a0_4 < 4294967296) = false := decide_eq_false c26
                      clear c26
                      obtain rfl := Option.some.inj H
                      have hcz30_0 : wc.cell? ⟨gb133, 0, none⟩ = some (.int .i64 a0_0) := (blk_cell BK133.out 0).trans rfl
                      have hcz30_1 : wc.cell? ⟨gb133, 1, none⟩ = some (.bool a0_1) := (blk_cell BK133.out 1).trans rfl
                      have hcz30_2 : wc.cell? ⟨gb133, 2, none⟩ = some (.int .i64 a0_2) := (blk_cell BK133.out 2).trans rfl
                      have hcz30_3 : wc.cell? ⟨gb133, 3, none⟩ = some (.int .u64 a0_3) := (blk_cell BK133.out 3).trans rfl
                      have hcz30_4 : wc.cell? ⟨gb133, 4, none⟩ = some (.int .u64 a0_4) := (blk_cell BK133.out 4).trans rfl
                      have hcz30_5 : wc.cell? ⟨gb133, 5, none⟩ = some (.string a0_5) := (blk_cell BK133.out 5).trans rfl
                      have hcz30_6 : wc.cell? ⟨gb133, 6, none⟩ = some (.int .i64 a0_6) := (blk_cell BK133.out 6).trans rfl
                      have hcz30_7 : wc.cell? ⟨gb133, 7, none⟩ = some (.bool a0_7) := (blk_cell BK133.out 7).trans rfl
                      have hcz30_8 : wc.cell? ⟨gb133, 8, none⟩ = some (.bool a0_8) := (blk_cell BK133.out 8).trans rfl
                      have hcz30_9 : wc.cell? ⟨gb133, 9, none⟩ = some (.int .i64 a0_9) := (blk_cell BK133.out 9).trans rfl
                      have hcz30_10 : wc.cell? ⟨gb133, 10, none⟩ = some (.int .i64 a0_10) := (blk_cell BK133.out 10).trans rfl
                      have hfz30_0 := blk_frozen BK133.out 0
                      have hfz30_1 := blk_frozen BK133.out 1
                      have hfz30_2 := blk_frozen BK133.out 2
                      have hfz30_3 := blk_frozen BK133.out 3
                      have hfz30_4 := blk_frozen BK133.out 4
                      have hfz30_5 := blk_frozen BK133.out 5
                      have hfz30_6 := blk_frozen BK133.out 6
                      have hfz30_7 := blk_frozen BK133.out 7
                      have hfz30_8 := blk_frozen BK133.out 8
                      have hfz30_9 := blk_frozen BK133.out 9
                      have hfz30_10 := blk_frozen BK133.out 10
                      go_wp2
                      go_ret
                      exact ⟨by first | rfl | (simp [errW_none, errW_some] <;> rfl) | (simp [*, errW_none, errW_some] <;> rfl), by repeat (first | (with_reducible first | exact HB.out | apply below_alloc | apply pw_below_drewN | apply below_drew1 | refine below_set ?_ GE133.out) | exact HB.out)⟩
                  · rw [if_neg c25] at H
                    have c25b0 : (a0_0 == 7) = false := beq_eq_false_iff_ne.mpr c25
                    have c25b1 : (a0_0 != 7) = true := bne_iff_ne.mpr c25
                    by_cases c31 : a0_0 = 5
                    · rw [if_pos c31] at H
                      have c31b0 : (a0_0 == 5) = true := beq_iff_eq.mpr c31
                      have c31b1 : (a0_0 != 5) = false := bne_eq_false_iff_eq.mpr c31
                      clear c31
                      obtain rfl := Option.some.inj H
                      have hcz32_0 : wc.cell? ⟨gb133, 0, none⟩ = some (.int .i64 a0_0) := (blk_cell BK133.out 0).trans rfl
                      have hcz32_1 : wc.cell? ⟨gb133, 1, none⟩ = some (.bool a0_1) := (blk_cell BK133.out 1).trans rfl
                      have hcz32_2 : wc.cell? ⟨gb133, 2, none⟩ = some (.int .i64 a0_2) := (blk_cell BK133.out 2).trans rfl
                      have hcz32_3 : wc.cell? ⟨gb133, 3, none⟩ = some (.int .u64 a0_3) := (blk_cell BK133.out 3).trans rfl
                      have hcz32_4 : wc.cell? ⟨gb133, 4, none⟩ = some (.int .u64 a0_4) := (blk_cell BK133.out 4).trans rfl
                      have hcz32_5 : wc.cell? ⟨gb133, 5, none⟩ = some (.string a0_5) := (blk_cell BK133.out 5).trans rfl
                      have hcz32_6 : wc.cell? ⟨gb133, 6, none⟩ = some (.int .i64 a0_6) := (blk_cell BK133.out 6).trans rfl
                      have hcz32_7 : wc.cell? ⟨gb133, 7, none⟩ = some (.bool a0_7) := (blk_cell BK133.out 7).trans rfl
                      have hcz32_8 : wc.cell? ⟨gb133, 8, none⟩ = some (.bool a0_8) := (blk_cell BK133.out 8).trans rfl
                      have hcz32_9 : wc.cell? ⟨gb133, 9, none⟩ = some (.int .i64 a0_9) := (blk_cell BK133.out 9).trans rfl
                      have hcz32_10 : wc.cell? ⟨gb133, 10, none⟩ = some (.int .i64 a0_10) := (blk_cell BK133.out 10).trans rfl
                      have hfz32_0 := blk_frozen BK133.out 0
                      have hfz32_1 := blk_frozen BK133.out 1
                      have hfz32_2 := blk_frozen BK133.out 2
                      have hfz32_3 := blk_frozen BK133.out 3
                      have hfz32_4 := blk_frozen BK133.out 4
                      have hfz32_5 := blk_frozen BK133.out 5
                      have hfz32_6 := blk_frozen BK133.out 6
                      have hfz32_7 := blk_frozen BK133.out 7
                      have hfz32_8 := blk_frozen BK133.out 8
                      have hfz32_9 := blk_frozen BK133.out 9
                      have hfz32_10 := blk_frozen BK133.out 10
                      go_wp2
                      go_ret
                      exact ⟨by first | rfl | (simp [errW_none, errW_some] <;> rfl) | (simp [*, errW_none, errW_some] <;> rfl), by repeat (first | (with_reducible first | exact HB.out | apply below_alloc | apply pw_below_drewN | apply below_drew1 | refine below_set ?_ GE133.out) | exact HB.out)⟩
                    · rw [if_neg c31] at H
                      have c31b0 : (a0_0 == 5) = false := beq_eq_false_iff_ne.mpr c31
                      have c31b1 : (a0_0 != 5) = true := bne_iff_ne.mpr c31
                      by_cases c33 : a0_0 = 9
                      · rw [if_pos c33] at H
                        have c33b0 : (a0_0 == 9) = true := beq_iff_eq.mpr c33
                        have c33b1 : (a0_0 != 9) = false := bne_eq_false_iff_eq.mpr c33
                        clear c33
                        obtain rfl := Option.some.inj H
                        have hcz34_0 : wc.cell? ⟨gb133, 0, none⟩ = some (.int .i64 a0_0) := (blk_cell BK133.out 0).trans rfl
                        have hcz34_1 : wc.cell? ⟨gb133, 1, none⟩ = some (.bool a0_1) := (blk_cell BK133.out 1).trans rfl
                        have hcz34_2 : wc.cell? ⟨gb133, 2, none⟩ = some (.int .i64 a0_2) := (blk_cell BK133.out 2).trans rfl
                        have hcz34_3 : wc.cell? ⟨gb133, 3, none⟩ = some (.int .u64 a0_3) := (blk_cell BK133.out 3).trans rfl
                        have hcz34_4 : wc.cell? ⟨gb133, 4, none⟩ = some (.int .u64 a0_4) := (blk_cell BK133.out 4).trans rfl
                        have hcz34_5 : wc.cell? ⟨gb133, 5, none⟩ = some (.string a0_5) := (blk_cell BK133.out 5).trans rfl
                        have hcz34_6 : wc.cell? ⟨gb133, 6, none⟩ = some (.int .i64 a0_6) := (blk_cell BK133.out 6).trans rfl
                        have hcz34_7 : wc.cell? ⟨gb133, 7, none⟩ = some (.bool a0_7) := (blk_cell BK133.out 7).trans rfl
                        have hcz34_8 : wc.cell? ⟨gb133, 8, none⟩ = some (.bool a0_8) := (blk_cell BK133.out 8).trans rfl
                        have hcz34_9 : wc.cell? ⟨gb133, 9, none⟩ = some (.int .i64 a0_9) := (blk_cell BK133.out 9).trans rfl
                        have hcz34_10 : wc.cell? ⟨gb133, 10, none⟩ = some (.int .i64 a0_10) := (blk_cell BK133.out 10).trans rfl
                        have hfz34_0 := blk_frozen BK133.out 0
                        have hfz34_1 := blk_frozen BK133.out 1
                        have hfz34_2 := blk_frozen BK133.out 2
                        have hfz34_3 := blk_frozen BK133.out 3
                        have hfz34_4 := blk_frozen BK133.out 4
                        have hfz34_5 := blk_frozen BK133.out 5
                        have hfz34_6 := blk_frozen BK133.out 6
                        have hfz34_7 := blk_frozen BK133.out 7
                        have hfz34_8 := blk_frozen BK133.out 8
                        have hfz34_9 := blk_frozen BK133.out 9
                        have hfz34_10 := blk_frozen BK133.out 10
                        go_wp2
                        go_ret
                        exact ⟨by first | rfl | (simp [errW_none, errW_some] <;> rfl) | (simp [*, errW_none, errW_some] <;> rfl), by repeat (first | (with_reducible first | exact HB.out | apply below_alloc | apply pw_below_drewN | apply below_drew1 | refine below_set ?_ GE133.out) | exact HB.out)⟩
                      · rw [if_neg c33] at H
                        have c33b0 : (a0_0 == 9) = false := beq_eq_false_iff_ne.mpr c33
                        have c33b1 : (a0_0 != 9) = true := bne_iff_ne.mpr c33
                        by_cases c35 : a0_0 = 6
                        · rw [if_pos c35] at H
                          have c35b0 : (a0_0 == 6) = true := beq_iff_eq.mpr c35
                          have c35b1 : (a0_0 != 6) = false := bne_eq_false_iff_eq.mpr c35
                          clear c35
                          replace H := Option.bind_eq_some_iff.mp H
                          obtain ⟨t145, A360, H⟩ := H
                          replace H : (some t145) = some r := H
                          have A36 := Aside0.mk A360
                          clear A360
                          obtain rfl := Option.some.inj H
                          have hcz37_0 : wc.cell? ⟨gb133, 0, none⟩ = some (.int .i64 a0_0) := (blk_cell BK133.out 0).trans rfl
                          have hcz37_1 : wc.cell? ⟨gb133, 1, none⟩ = some (.bool a0_1) := (blk_cell BK133.out 1).trans rfl
                          have hcz37_2 : wc.cell? ⟨gb133, 2, none⟩ = some (.int .i64 a0_2) := (blk_cell BK133.out 2).trans rfl
                          have hcz37_3 : wc.cell? ⟨gb133, 3, none⟩ = some (.int .u64 a0_3) := (blk_cell BK133.out 3).trans rfl
                          have hcz37_4 : wc.cell? ⟨gb133, 4, none⟩ = some (.int .u64 a0_4) := (blk_cell BK133.out 4).trans rfl
                          have hcz37_5 : wc.cell? ⟨gb133, 5, none⟩ = some (.string a0_5) := (blk_cell BK133.out 5).trans rfl
                          have hcz37_6 : wc.cell? ⟨gb133, 6, none⟩ = some (.int .i64 a0_6) := (blk_cell BK133.out 6).trans rfl
                          have hcz37_7 : wc.cell? ⟨gb133, 7, none⟩ = some (.bool a0_7) := (blk_cell BK133.out 7).trans rfl
                          have hcz37_8 : wc.cell? ⟨gb133, 8, none⟩ = some (.bool a0_8) := (blk_cell BK133.out 8).trans rfl
                          have hcz37_9 : wc.cell? ⟨gb133, 9, none⟩ = some (.int .i64 a0_9) := (blk_cell BK133.out 9).trans rfl
                          have hcz37_10 : wc.cell? ⟨gb133, 10, none⟩ = some (.int .i64 a0_10) := (blk_cell BK133.out 10).trans rfl
                          have hfz37_0 := blk_frozen BK133.out 0
                          have hfz37_1 := blk_frozen BK133.out 1
                          have hfz37_2 := blk_frozen BK133.out 2
                          have hfz37_3 := blk_frozen BK133.out 3
                          have hfz37_4 := blk_frozen BK133.out 4
                          have hfz37_5 := blk_frozen BK133.out 5
                          have hfz37_6 := blk_frozen BK133.out 6
                          have hfz37_7 := blk_frozen BK133.out 7
                          have hfz37_8 := blk_frozen BK133.out 8
                          have hfz37_9 := blk_frozen BK133.out 9
                          have hfz37_10 := blk_frozen BK133.out 10
                          go_wp2_with (first | ((with_reducible refine gate_callee (f := 101) rfl ?_); refine goesL_ (some 85) rfl rfl Tryd.func101 (by kernel_rfl) rfl #[.agg #[.int .i64 a0_6, .bool a0_7, .bool a0_8, .int .i64 a0_9, .int .i64 a0_10]] rfl (by (try simp only [List.map_toArray, List.map_cons, List.map_nil]); first | done | rfl | (simp only [List.length_drop, List.length_take]; rfl)) ?_; (with_reducible refine (spec_CodPaneIs.calls a0_6 a0_7 a0_8 a0_9 a0_10 t145 _ A36.out).mono ?_); rintro e w38 ⟨rfl, hb⟩; refine ⟨_, rfl, ?_⟩; have n0_ := Aside0.mk (blk_below (g := gb133) (o := .cells #[.int .i64 a0_0, .bool a0_1, .int .i64 a0_2, .int .u64 a0_3, .int .u64 a0_4, .string a0_5, .int .i64 a0_6, .bool a0_7, .bool a0_8, .int .i64 a0_9, .int .i64 a0_10] 37 (0, 0)) (by (with_reducible repeat (first | refine blk_drewN ?_ _ | refine blk_drew ?_ | refine blk_alloc ?_ _)); exact BK133.out) hb); have n1_ := Aside0.mk (below_step (by repeat (first | (with_reducible first | exact HB.out | apply below_alloc | apply pw_below_drewN | apply below_drew1 | refine below_set ?_ GE133.out) | exact HB.out)) hb); clear BK133; clear HB; have BK133 := n0_; have HB := n1_; clear n0_ n1_; (try clear hb); (try clear hb2); (try clear hk); (try clear hi)))
                          go_ret
                          exact ⟨by first | rfl | (simp [errW_none, errW_some] <;> rfl) | (simp [*, errW_none, errW_some] <;> rfl), by repeat (first | (with_reducible first | exact HB.out | apply below_alloc | apply pw_below_drewN | apply below_drew1 | refine below_set ?_ GE133.out) | exact HB.out)⟩
                        · rw [if_neg c35] at H
                          have c35b0 : (a0_0 == 6) = false := beq_eq_false_iff_ne.mpr c35
                          have c35b1 : (a0_0 != 6) = true := bne_iff_ne.mpr c35
                          obtain rfl := Option.some.inj H
                          go_wp2
                          go_ret
                          exact ⟨by first | rfl | (simp [errW_none, errW_some] <;> rfl) | (simp [*, errW_none, errW_some] <;> rfl), by repeat (first | (with_reducible first | exact HB.out | apply below_alloc | apply pw_below_drewN | apply below_drew1 | refine below_set ?_ GE133.out) | exact HB.out)⟩
def laws_codClean.f (k : Nat) (a0_0 : Int) (a0_1 : Bool) (a0_2 : Int) (a0_3 : Int) (a0_4 : Int) (a0_5 : ByteArray) (a0_6 : Int) (a0_7 : Bool) (a0_8 : Bool) (a0_9 : Int) (a0_10 : Int) : Option (Bool) := (laws_codOf.f a0_0 a0_1 a0_2 a0_3 a0_4 a0_5 a0_6 a0_7 a0_8 a0_9 a0_10).bind fun bt147 => ((spec_CodClean.f k bt147.1 bt147.2.1 bt147.2.2.1 bt147.2.2.2.1 bt147.2.2.2.2.1 bt147.2.2.2.2.2.1 bt147.2.2.2.2.2.2.1 bt147.2.2.2.2.2.2.2.1 bt147.2.2.2.2.2.2.2.2.1 bt147.2.2.2.2.2.2.2.2.2.1 bt147.2.2.2.2.2.2.2.2.2.2).bind fun t158 => (some t158))
theorem laws_codClean.mono : ∀ a0 a1 a2 a3 a4 a5 a6 a7 a8 a9 a10 k, LeO (laws_codClean.f k a0 a1 a2 a3 a4 a5 a6 a7 a8 a9 a10) (laws_codClean.f (k + 1) a0 a1 a2 a3 a4 a5 a6 a7 a8 a9 a10) := by
  intro a0 a1 a2 a3 a4 a5 a6 a7 a8 a9 a10 k
  unfold laws_codClean.f
  repeat' first
      | (with_reducible exact spec_CodClean.mono _ _ _ _ _ _ _ _ _ _ _ _)
      | (with_reducible exact LeO.refl _)
      | (with_reducible exact LeO.none _)
      | (with_reducible refine LeO.ite ?_ ?_)
      | (with_reducible refine LeO.bind ?_ (fun _ => ?_))
      | exact spec_CodClean.mono _ _ _ _ _ _ _ _ _ _ _ _
      | exact LeO.none _
      | refine LeO.ite ?_ ?_
      | refine LeO.bind ?_ (fun _ => ?_)
set_option maxHeartbeats 8000000 in
set_option maxRecDepth 100000 in
theorem laws_codClean.calls (k : Nat) (a0_0 : Int) (a0_1 : Bool) (a0_2 : Int) (a0_3 : Int) (a0_4 : Int) (a0_5 : ByteArray) (a0_6 : Int) (a0_7 : Bool) (a0_8 : Bool) (a0_9 : Int) (a0_10 : Int) (r : Bool) (w : World) (h : laws_codClean.f k a0_0 a0_1 a0_2 a0_3 a0_4 a0_5 a0_6 a0_7 a0_8 a0_9 a0_10 = some r) :
    Calls Tryd.prog 23 #[.agg #[.int .i64 a0_0, .bool a0_1, .int .i64 a0_2, .int .u64 a0_3, .int .u64 a0_4, .string a0_5, .int .i64 a0_6, .bool a0_7, .bool a0_8, .int .i64 a0_9, .int .i64 a0_10]] w fun e w' => e = .returned (.bool r) ∧ Below w.heap.size w w' := by
  have hu26 := Tryd.underlying26
  have HB := Aside0.mk (Below.refl w.heap.size w)
  have H : ((laws_codOf.f a0_0 a0_1 a0_2 a0_3 a0_4 a0_5 a0_6 a0_7 a0_8 a0_9 a0_10).bind fun bt147 => ((spec_CodClean.f k bt147.1 bt147.2.1 bt147.2.2.1 bt147.2.2.2.1 bt147.2.2.2.2.1 bt147.2.2.2.2.2.1 bt147.2.2.2.2.2.2.1 bt147.2.2.2.2.2.2.2.1 bt147.2.2.2.2.2.2.2.2.1 bt147.2.2.2.2.2.2.2.2.2.1 bt147.2.2.2.2.2.2.2.2.2.2).bind fun t158 => (some t158))) = some r := h
  clear h
  replace H := Option.bind_eq_some_iff.mp H
  obtain ⟨⟨t147, t148, t149, t150, t151, t152, t153, t154, t155, t156, t157⟩, A20, H⟩ := H
  replace H : ((spec_CodClean.f k t147 t148 t149 t150 t151 t152 t153 t154 t155 t156 t157).bind fun t158 => (some t158)) = some r := H
  have A2 := Aside0.mk A20
  clear A20
  replace H := Option.bind_eq_some_iff.mp H
  obtain ⟨t158, A30, H⟩ := H
  replace H : (some t158) = some r := H
  have A3 := Aside0.mk A30
  clear A30
  obtain rfl := Option.some.inj H
  go_enter Tryd.func23, Tryd.ntmps23
  go_wp2_with (first | ((with_reducible refine gate_dst (N := 1) rfl ?_); refine box_event ?hg (N := 1) ?hd (cs := #[.int .i64 a0_0, .bool a0_1, .int .i64 a0_2, .int .u64 a0_3, .int .u64 a0_4, .string a0_5, .int .i64 a0_6, .bool a0_7, .bool a0_8, .int .i64 a0_9, .int .i64 a0_10]) (t := 26) ?hr ?_; (case hd => rfl); (case hg => rfl); (case hr => first | (go_simp; done) | (go_simp; rfl)); intro gb146 hg w4 hbox hb; have n0_ := Aside0.mk (below_step (by repeat (first | (with_reducible first | exact HB.out | apply below_alloc | apply pw_below_drewN | apply below_drew1) | exact HB.out)) hb); have n1_ := Aside0.mk (hbox); have n2_ := Aside0.mk ((by rw [hg]; exact (below_size (by repeat (first | (with_reducible first | exact HB.out | apply below_alloc | apply pw_below_drewN | apply below_drew1) | exact HB.out))) : w.heap.size ≤ gb146)); have n3_ := Aside0.mk ((by rw [hg]; exact (below_size (by repeat (first | (with_reducible first | exact HB.out | apply below_alloc | apply pw_below_drewN | apply below_drew1) | exact HB.out))) : w.heap.size ≤ gb146)); clear HB; have HB := n0_; have BK146 := n1_; have GW146 := n2_; have GE146 := n3_; clear n0_ n1_ n2_ n3_; clear hb hbox hg; have hcz5_0 : w4.cell? ⟨gb146, 0, none⟩ = some (.int .i64 a0_0) := (blk_cell BK146.out 0).trans rfl; have hcz5_1 : w4.cell? ⟨gb146, 1, none⟩ = some (.bool a0_1) := (blk_cell BK146.out 1).trans rfl; have hcz5_2 : w4.cell? ⟨gb146, 2, none⟩ = some (.int .i64 a0_2) := (blk_cell BK146.out 2).trans rfl; have hcz5_3 : w4.cell? ⟨gb146, 3, none⟩ = some (.int .u64 a0_3) := (blk_cell BK146.out 3).trans rfl; have hcz5_4 : w4.cell? ⟨gb146, 4, none⟩ = some (.int .u64 a0_4) := (blk_cell BK146.out 4).trans rfl; have hcz5_5 : w4.cell? ⟨gb146, 5, none⟩ = some (.string a0_5) := (blk_cell BK146.out 5).trans rfl; have hcz5_6 : w4.cell? ⟨gb146, 6, none⟩ = some (.int .i64 a0_6) := (blk_cell BK146.out 6).trans rfl; have hcz5_7 : w4.cell? ⟨gb146, 7, none⟩ = some (.bool a0_7) := (blk_cell BK146.out 7).trans rfl; have hcz5_8 : w4.cell? ⟨gb146, 8, none⟩ = some (.bool a0_8) := (blk_cell BK146.out 8).trans rfl; have hcz5_9 : w4.cell? ⟨gb146, 9, none⟩ = some (.int .i64 a0_9) := (blk_cell BK146.out 9).trans rfl; have hcz5_10 : w4.cell? ⟨gb146, 10, none⟩ = some (.int .i64 a0_10) := (blk_cell BK146.out 10).trans rfl; have hfz5_0 := blk_frozen BK146.out 0; have hfz5_1 := blk_frozen BK146.out 1; have hfz5_2 := blk_frozen BK146.out 2; have hfz5_3 := blk_frozen BK146.out 3; have hfz5_4 := blk_frozen BK146.out 4; have hfz5_5 := blk_frozen BK146.out 5; have hfz5_6 := blk_frozen BK146.out 6; have hfz5_7 := blk_frozen BK146.out 7; have hfz5_8 := blk_frozen BK146.out 8; have hfz5_9 := blk_frozen BK146.out 9; have hfz5_10 := blk_frozen BK146.out 10) | ((with_reducible refine gate_callee (f := 25) rfl ?_); refine goesL_ (some 4) rfl rfl Tryd.func25 (by kernel_rfl) rfl #[.agg #[.int .i64 a0_0, .bool a0_1, .int .i64 a0_2, .int .u64 a0_3, .int .u64 a0_4, .string a0_5, .int .i64 a0_6, .bool a0_7, .bool a0_8, .int .i64 a0_9, .int .i64 a0_10]] rfl (by (try simp only [List.map_toArray, List.map_cons, List.map_nil]); first | done | rfl | (simp only [List.length_drop, List.length_take]; rfl)) ?_; (with_reducible refine (laws_codOf.calls a0_0 a0_1 a0_2 a0_3 a0_4 a0_5 a0_6 a0_7 a0_8 a0_9 a0_10 t147 t148 t149 t150 t151 t152 t153 t154 t155 t156 t157 _ A2.out).mono ?_); rintro e w6 ⟨rfl, hb⟩; refine ⟨_, rfl, ?_⟩; have n0_ := Aside0.mk (blk_below (g := gb146) (o := .cells #[.int .i64 a0_0, .bool a0_1, .int .i64 a0_2, .int .u64 a0_3, .int .u64 a0_4, .string a0_5, .int .i64 a0_6, .bool a0_7, .bool a0_8, .int .i64 a0_9, .int .i64 a0_10] 26 (0, 0)) (by (with_reducible repeat (first | refine blk_drewN ?_ _ | refine blk_drew ?_ | refine blk_alloc ?_ _)); exact BK146.out) hb); have n1_ := Aside0.mk (below_step (by repeat (first | (with_reducible first | exact HB.out | apply below_alloc | apply pw_below_drewN | apply below_drew1 | refine below_set ?_ GE146.out) | exact HB.out)) hb); clear BK146; clear HB; have BK146 := n0_; have HB := n1_; clear n0_ n1_; (try clear hb); (try clear hb2); (try clear hk); (try clear hi)) | ((with_reducible refine gate_callee (f := 64) rfl ?_); refine goesL_ (some 5) rfl rfl Tryd.func64 (by kernel_rfl) rfl #[.agg #[.int .i64 t147, .bool t148, .int .i64 t149, .int .u64 t150, .int .u64 t151, .string t152, .int .i64 t153, .bool t154, .bool t155, .int .i64 t156, .int .i64 t157]] rfl (by (try simp only [List.map_toArray, List.map_cons, List.map_nil]); first | done | rfl | (simp only [List.length_drop, List.length_take]; rfl)) ?_; (with_reducible refine (spec_CodClean.calls k t147 t148 t149 t150 t151 t152 t153 t154 t155 t156 t157 t158 _ A3.out).mono ?_); rintro e w7 ⟨rfl, hb⟩; refine ⟨_, rfl, ?_⟩; have n0_ := Aside0.mk (blk_below (g := gb146) (o := .cells #[.int .i64 a0_0, .bool a0_1, .int .i64 a0_2, .int .u64 a0_3, .int .u64 a0_4, .string a0_5, .int .i64 a0_6, .bool a0_7, .bool a0_8, .int .i64 a0_9, .int .i64 a0_10] 26 (0, 0)) (by (with_reducible repeat (first | refine blk_drewN ?_ _ | refine blk_drew ?_ | refine blk_alloc ?_ _)); exact BK146.out) hb); have n1_ := Aside0.mk (below_step (by repeat (first | (with_reducible first | exact HB.out | apply below_alloc | apply pw_below_drewN | apply below_drew1 | refine below_set ?_ GE146.out) | exact HB.out)) hb); clear BK146; clear HB; have BK146 := n0_; have HB := n1_; clear n0_ n1_; (try clear hb); (try clear hb2); (try clear hk); (try clear hi)))
  go_ret
  exact ⟨by first | rfl | (simp [errW_none, errW_some] <;> rfl) | (simp [*, errW_none, errW_some] <;> rfl), by repeat (first | (with_reducible first | exact HB.out | apply below_alloc | apply pw_below_drewN | apply below_drew1 | refine below_set ?_ GE146.out) | exact HB.out)⟩
end Go.Proofs.YtgdbeiadlgkedaaDoor.PFnEncode
