/- Functions' contracts as print.sh printed them, those alone that are wanted. -/
import Derived.Test.YtdifeleddhefnaaDoorPFnWinLastx0
set_option linter.unusedVariables false
set_option linter.unusedSimpArgs false
namespace Go.Proofs.YtdifeleddhefnaaDoor.PFnWinLast
open Go.RowKit Go.Proofs.YtdifeleddhefnaaDoorW.PrintWords Go.Proofs.YtdifeleddhefnaaDoorW.PrintLast Go.Proofs.YtdifeleddhefnaaDoorW.PrintMore
/-! ### spec_WinIsSpan: function 9 -/
def spec_WinIsSpan.f (a0_0 : Bool) (a0_1 : Int) (a0_2 : Int) : Option (Bool) := if a0_0 = true then (if a0_1 = 0 then (some (a0_2 == 0)) else (some false)) else (if a0_1 < a0_2 then (if a0_1 ≥ (-1125899906842624) then (some (decide (a0_2 ≤ 1125899906842624))) else (some false)) else (some false))
set_option maxHeartbeats 8000000 in
set_option maxRecDepth 100000 in
theorem spec_WinIsSpan.calls (a0_0 : Bool) (a0_1 : Int) (a0_2 : Int) (r : Bool) (w : World) (h : spec_WinIsSpan.f a0_0 a0_1 a0_2 = some r) :
    Calls Tryd.prog 9 #[.agg #[.bool a0_0, .int .i64 a0_1, .int .i64 a0_2]] w fun e w' => e = .returned (.bool r) ∧ Below w.heap.size w w' := by
  have hu26 := Tryd.underlying26
  have HB := Aside0.mk (Below.refl w.heap.size w)
  have H : (if a0_0 = true then (if a0_1 = 0 then (some (a0_2 == 0)) else (some false)) else (if a0_1 < a0_2 then (if a0_1 ≥ (-1125899906842624) then (some (decide (a0_2 ≤ 1125899906842624))) else (some false)) else (some false))) = some r := h
  clear h
  by_cases c2 : a0_0 = true
  · subst c2
    have H1 : (if a0_1 = 0 then (some (a0_2 == 0)) else (some false)) = some r := by rw [if_pos rfl] at H; exact H
    clear H
    have H := H1
    clear H1
    by_cases c3 : a0_1 = 0
    · rw [if_pos c3] at H
      have c3b0 : (a0_1 == 0) = true := beq_iff_eq.mpr c3
      have c3b1 : (a0_1 != 0) = false := bne_eq_false_iff_eq.mpr c3
      clear c3
      obtain rfl := Option.some.inj H
      go_enter Tryd.func9, Tryd.ntmps9
      go_wp2_with (first | ((with_reducible refine gate_dst (N := 1) rfl ?_); refine box_event ?hg (N := 1) ?hd (cs := #[.bool true, .int .i64 a0_1, .int .i64 a0_2]) (t := 26) ?hr ?_; (case hd => rfl); (case hg => rfl); (case hr => first | (go_simp; done) | (go_simp; rfl)); intro gb131 hg w4 hbox hb; have n0_ := Aside0.mk (below_step (by repeat (first | (with_reducible first | exact HB.out | apply below_alloc | apply pw_below_drewN | apply below_drew1) | exact HB.out)) hb); have n1_ := Aside0.mk (hbox); have n2_ := Aside0.mk ((by rw [hg]; exact (below_size (by repeat (first | (with_reducible first | exact HB.out | apply below_alloc | apply pw_below_drewN | apply below_drew1) | exact HB.out))) : w.heap.size ≤ gb131)); have n3_ := Aside0.mk ((by rw [hg]; exact (below_size (by repeat (first | (with_reducible first | exact HB.out | apply below_alloc | apply pw_below_drewN | apply below_drew1) | exact HB.out))) : w.heap.size ≤ gb131)); clear HB; have HB := n0_; have BK131 := n1_; have GW131 := n2_; have GE131 := n3_; clear n0_ n1_ n2_ n3_; clear hb hbox hg; have hcz5_0 : w4.cell? ⟨gb131, 0, none⟩ = some (.bool true) := (blk_cell BK131.out 0).trans rfl; have hcz5_1 : w4.cell? ⟨gb131, 1, none⟩ = some (.int .i64 a0_1) := (blk_cell BK131.out 1).trans rfl; have hcz5_2 : w4.cell? ⟨gb131, 2, none⟩ = some (.int .i64 a0_2) := (blk_cell BK131.out 2).trans rfl; have hfz5_0 := blk_frozen BK131.out 0; have hfz5_1 := blk_frozen BK131.out 1; have hfz5_2 := blk_frozen BK131.out 2))
      go_ret
      exact ⟨by first | rfl | (simp [errW_none, errW_some] <;> rfl) | (simp [*, errW_none, errW_some] <;> rfl), by repeat (first | (with_reducible first | exact HB.out | apply below_alloc | apply pw_below_drewN | apply below_drew1 | refine below_set ?_ GE131.out) | exact HB.out)⟩
    · rw [if_neg c3] at H
      have c3b0 : (a0_1 == 0) = false := beq_eq_false_iff_ne.mpr c3
      have c3b1 : (a0_1 != 0) = true := bne_iff_ne.mpr c3
      obtain rfl := Option.some.inj H
      go_enter Tryd.func9, Tryd.ntmps9
      go_wp2_with (first | ((with_reducible refine gate_dst (N := 1) rfl ?_); refine box_event ?hg (N := 1) ?hd (cs := #[.bool true, .int .i64 a0_1, .int .i64 a0_2]) (t := 26) ?hr ?_; (case hd => rfl); (case hg => rfl); (case hr => first | (go_simp; done) | (go_simp; rfl)); intro gb131 hg w6 hbox hb; have n0_ := Aside0.mk (below_step (by repeat (first | (with_reducible first | exact HB.out | apply below_alloc | apply pw_below_drewN | apply below_drew1) | exact HB.out)) hb); have n1_ := Aside0.mk (hbox); have n2_ := Aside0.mk ((by rw [hg]; exact (below_size (by repeat (first | (with_reducible first | exact HB.out | apply below_alloc | apply pw_below_drewN | apply below_drew1) | exact HB.out))) : w.heap.size ≤ gb131)); have n3_ := Aside0.mk ((by rw [hg]; exact (below_size (by repeat (first | (with_reducible first | exact HB.out | apply below_alloc | apply pw_below_drewN | apply below_drew1) | exact HB.out))) : w.heap.size ≤ gb131)); clear HB; have HB := n0_; have BK131 := n1_; have GW131 := n2_; have GE131 := n3_; clear n0_ n1_ n2_ n3_; clear hb hbox hg; have hcz7_0 : w6.cell? ⟨gb131, 0, none⟩ = some (.bool true) := (blk_cell BK131.out 0).trans rfl; have hcz7_1 : w6.cell? ⟨gb131, 1, none⟩ = some (.int .i64 a0_1) := (blk_cell BK131.out 1).trans rfl; have hcz7_2 : w6.cell? ⟨gb131, 2, none⟩ = some (.int .i64 a0_2) := (blk_cell BK131.out 2).trans rfl; have hfz7_0 := blk_frozen BK131.out 0; have hfz7_1 := blk_frozen BK131.out 1; have hfz7_2 := blk_frozen BK131.out 2))
      go_ret
      exact ⟨by first | rfl | (simp [errW_none, errW_some] <;> rfl) | (simp [*, errW_none, errW_some] <;> rfl), by repeat (first | (with_reducible first | exact HB.out | apply below_alloc | apply pw_below_drewN | apply below_drew1 | refine below_set ?_ GE131.out) | exact HB.out)⟩
  · replace c2 := Bool.eq_false_iff.mpr c2
    subst c2
    have H1 : (if a0_1 < a0_2 then (if a0_1 ≥ (-1125899906842624) then (some (decide (a0_2 ≤ 1125899906842624))) else (some false)) else (some false)) = some r := by rw [if_neg (show ¬ (false = true) by decide)] at H; exact H
    clear H
    have H := H1
    clear H1
    by_cases c8 : a0_1 < a0_2
    · rw [if_pos c8] at H
      have c8b0 : decide (a0_1 < a0_2) = true := decide_eq_true c8
      clear c8
      by_cases c9 : a0_1 ≥ (-1125899906842624)
      · rw [if_pos c9] at H
        have c9b0 : decide ((-1125899906842624) ≤ a0_1) = true := decide_eq_true c9
        clear c9
        obtain rfl := Option.some.inj H
        go_enter Tryd.func9, Tryd.ntmps9
        go_wp2_with (first | ((with_reducible refine gate_dst (N := 1) rfl ?_); refine box_event ?hg (N := 1) ?hd (cs := #[.bool false, .int .i64 a0_1, .int .i64 a0_2]) (t := 26) ?hr ?_; (case hd => rfl); (case hg => rfl); (case hr => first | (go_simp; done) | (go_simp; rfl)); intro gb131 hg w10 hbox hb; have n0_ := Aside0.mk (below_step (by repeat (first | (with_reducible first | exact HB.out | apply below_alloc | apply pw_below_drewN | apply below_drew1) | exact HB.out)) hb); have n1_ := Aside0.mk (hbox); have n2_ := Aside0.mk ((by rw [hg]; exact (below_size (by repeat (first | (with_reducible first | exact HB.out | apply below_alloc | apply pw_below_drewN | apply below_drew1) | exact HB.out))) : w.heap.size ≤ gb131)); have n3_ := Aside0.mk ((by rw [hg]; exact (below_size (by repeat (first | (with_reducible first | exact HB.out | apply below_alloc | apply pw_below_drewN | apply below_drew1) | exact HB.out))) : w.heap.size ≤ gb131)); clear HB; have HB := n0_; have BK131 := n1_; have GW131 := n2_; have GE131 := n3_; clear n0_ n1_ n2_ n3_; clear hb hbox hg; have hcz11_0 : w10.cell? ⟨gb131, 0, none⟩ = some (.bool false) := (blk_cell BK131.out 0).trans rfl; have hcz11_1 : w10.cell? ⟨gb131, 1, none⟩ = some (.int .i64 a0_1) := (blk_cell BK131.out 1).trans rfl; have hcz11_2 : w10.cell? ⟨gb131, 2, none⟩ = some (.int .i64 a0_2) := (blk_cell BK131.out 2).trans rfl; have hfz11_0 := blk_frozen BK131.out 0; have hfz11_1 := blk_frozen BK131.out 1; have hfz11_2 := blk_frozen BK131.out 2))
        go_ret
        exact ⟨by first | rfl | (simp [errW_none, errW_some] <;> rfl) | (simp [*, errW_none, errW_some] <;> rfl), by repeat (first | (with_reducible first | exact HB.out | apply below_alloc | apply pw_below_drewN | apply below_drew1 | refine below_set ?_ GE131.out) | exact HB.out)⟩
      · rw [if_neg c9] at H
        have c9b0 : decide ((-1125899906842624) ≤ a0_1) = false := decide_eq_false c9
        clear c9
        obtain rfl := Option.some.inj H
        go_enter Tryd.func9, Tryd.ntmps9
        go_wp2_with (first | ((with_reducible refine gate_dst (N := 1) rfl ?_); refine box_event ?hg (N := 1) ?hd (cs := #[.bool false, .int .i64 a0_1, .int .i64 a0_2]) (t := 26) ?hr ?_; (case hd => rfl); (case hg => rfl); (case hr => first | (go_simp; done) | (go_simp; rfl)); intro gb131 hg w12 hbox hb; have n0_ := Aside0.mk (below_step (by repeat (first | (with_reducible first | exact HB.out | apply below_alloc | apply pw_below_drewN | apply below_drew1) | exact HB.out)) hb); have n1_ := Aside0.mk (hbox); have n2_ := Aside0.mk ((by rw [hg]; exact (below_size (by repeat (first | (with_reducible first | exact HB.out | apply below_alloc | apply pw_below_drewN | apply below_drew1) | exact HB.out))) : w.heap.size ≤ gb131)); have n3_ := Aside0.mk ((by rw [hg]; exact (below_size (by repeat (first | (with_reducible first | exact HB.out | apply below_alloc | apply pw_below_drewN | apply below_drew1) | exact HB.out))) : w.heap.size ≤ gb131)); clear HB; have HB := n0_; have BK131 := n1_; have GW131 := n2_; have GE131 := n3_; clear n0_ n1_ n2_ n3_; clear hb hbox hg; have hcz13_0 : w12.cell? ⟨gb131, 0, none⟩ = some (.bool false) := (blk_cell BK131.out 0).trans rfl; have hcz13_1 : w12.cell? ⟨gb131, 1, none⟩ = some (.int .i64 a0_1) := (blk_cell BK131.out 1).trans rfl; have hcz13_2 : w12.cell? ⟨gb131, 2, none⟩ = some (.int .i64 a0_2) := (blk_cell BK131.out 2).trans rfl; have hfz13_0 := blk_frozen BK131.out 0; have hfz13_1 := blk_frozen BK131.out 1; have hfz13_2 := blk_frozen BK131.out 2))
        go_ret
        exact ⟨by first | rfl | (simp [errW_none, errW_some] <;> rfl) | (simp [*, errW_none, errW_some] <;> rfl), by repeat (first | (with_reducible first | exact HB.out | apply below_alloc | apply pw_below_drewN | apply below_drew1 | refine below_set ?_ GE131.out) | exact HB.out)⟩
    · rw [if_neg c8] at H
      have c8b0 : decide (a0_1 < a0_2) = false := decide_eq_false c8
      clear c8
      obtain rfl := Option.some.inj H
      go_enter Tryd.func9, Tryd.ntmps9
      go_wp2_with (first | ((with_reducible refine gate_dst (N := 1) rfl ?_); refine box_event ?hg (N := 1) ?hd (cs := #[.bool false, .int .i64 a0_1, .int .i64 a0_2]) (t := 26) ?hr ?_; (case hd => rfl); (case hg => rfl); (case hr => first | (go_simp; done) | (go_simp; rfl)); intro gb131 hg w14 hbox hb; have n0_ := Aside0.mk (below_step (by repeat (first | (with_reducible first | exact HB.out | apply below_alloc | apply pw_below_drewN | apply below_drew1) | exact HB.out)) hb); have n1_ := Aside0.mk (hbox); have n2_ := Aside0.mk ((by rw [hg]; exact (below_size (by repeat (first | (with_reducible first | exact HB.out | apply below_alloc | apply pw_below_drewN | apply below_drew1) | exact HB.out))) : w.heap.size ≤ gb131)); have n3_ := Aside0.mk ((by rw [hg]; exact (below_size (by repeat (first | (with_reducible first | exact HB.out | apply below_alloc | apply pw_below_drewN | apply below_drew1) | exact HB.out))) : w.heap.size ≤ gb131)); clear HB; have HB := n0_; have BK131 := n1_; have GW131 := n2_; have GE131 := n3_; clear n0_ n1_ n2_ n3_; clear hb hbox hg; have hcz15_0 : w14.cell? ⟨gb131, 0, none⟩ = some (.bool false) := (blk_cell BK131.out 0).trans rfl; have hcz15_1 : w14.cell? ⟨gb131, 1, none⟩ = some (.int .i64 a0_1) := (blk_cell BK131.out 1).trans rfl; have hcz15_2 : w14.cell? ⟨gb131, 2, none⟩ = some (.int .i64 a0_2) := (blk_cell BK131.out 2).trans rfl; have hfz15_0 := blk_frozen BK131.out 0; have hfz15_1 := blk_frozen BK131.out 1; have hfz15_2 := blk_frozen BK131.out 2))
      go_ret
      exact ⟨by first | rfl | (simp [errW_none, errW_some] <;> rfl) | (simp [*, errW_none, errW_some] <;> rfl), by repeat (first | (with_reducible first | exact HB.out | apply below_alloc | apply pw_below_drewN | apply below_drew1 | refine below_set ?_ GE131.out) | exact HB.out)⟩

/-! ### spec_WinLast: function 11 -/
def spec_WinLast.f (a0_0 : Bool) (a0_1 : Int) (a0_2 : Int) : Option (Int) := if a0_0 = true then (some 9223371950454775) else (some (wrap64 (a0_2 - 1)))
set_option maxHeartbeats 8000000 in
set_option maxRecDepth 100000 in
theorem spec_WinLast.calls (a0_0 : Bool) (a0_1 : Int) (a0_2 : Int) (r : Int) (w : World) (h : spec_WinLast.f a0_0 a0_1 a0_2 = some r) :
    Calls Tryd.prog 11 #[.agg #[.bool a0_0, .int .i64 a0_1, .int .i64 a0_2]] w fun e w' => e = .returned (.int .i64 r) ∧ Below w.heap.size w w' := by
  have hu26 := Tryd.underlying26
  have HB := Aside0.mk (Below.refl w.heap.size w)
  have H : (if a0_0 = true then (some 9223371950454775) else (some (wrap64 (a0_2 - 1)))) = some r := h
  clear h
  by_cases c2 : a0_0 = true
  · subst c2
    have H1 : (some 9223371950454775) = some r := by rw [if_pos rfl] at H; exact H
    clear H
    have H := H1
    clear H1
    obtain rfl := Option.some.inj H
    go_enter Tryd.func11, Tryd.ntmps11
    go_wp2_with (first | ((with_reducible refine gate_dst (N := 1) rfl ?_); refine box_event ?hg (N := 1) ?hd (cs := #[.bool true, .int .i64 a0_1, .int .i64 a0_2]) (t := 26) ?hr ?_; (case hd => rfl); (case hg => rfl); (case hr => first | (go_simp; done) | (go_simp; rfl)); intro gb133 hg w3 hbox hb; have n0_ := Aside0.mk (below_step (by repeat (first | (with_reducible first | exact HB.out | apply below_alloc | apply pw_below_drewN | apply below_drew1) | exact HB.out)) hb); have n1_ := Aside0.mk (hbox); have n2_ := Aside0.mk ((by rw [hg]; exact (below_size (by repeat (first | (with_reducible first | exact HB.out | apply below_alloc | apply pw_below_drewN | apply below_drew1) | exact HB.out))) : w.heap.size ≤ gb133)); have n3_ := Aside0.mk ((by rw [hg]; exact (below_size (by repeat (first | (with_reducible first | exact HB.out | apply below_alloc | apply pw_below_drewN | apply below_drew1) | exact HB.out))) : w.heap.size ≤ gb133)); clear HB; have HB := n0_; have BK133 := n1_; have GW133 := n2_; have GE133 := n3_; clear n0_ n1_ n2_ n3_; clear hb hbox hg; have hcz4_0 : w3.cell? ⟨gb133, 0, none⟩ = some (.bool true) := (blk_cell BK133.out 0).trans rfl; have hcz4_1 : w3.cell? ⟨gb133, 1, none⟩ = some (.int .i64 a0_1) := (blk_cell BK133.out 1).trans rfl; have hcz4_2 : w3.cell? ⟨gb133, 2, none⟩ = some (.int .i64 a0_2) := (blk_cell BK133.out 2).trans rfl; have hfz4_0 := blk_frozen BK133.out 0; have hfz4_1 := blk_frozen BK133.out 1; have hfz4_2 := blk_frozen BK133.out 2))
    go_ret
    exact ⟨by first | rfl | (simp [errW_none, errW_some] <;> rfl) | (simp [*, errW_none, errW_some] <;> rfl), by repeat (first | (with_reducible first | exact HB.out | apply below_alloc | apply pw_below_drewN | apply below_drew1 | refine below_set ?_ GE133.out) | exact HB.out)⟩
  · replace c2 := Bool.eq_false_iff.mpr c2
    subst c2
    have H1 : (some (wrap64 (a0_2 - 1))) = some r := by rw [if_neg (show ¬ (false = true) by decide)] at H; exact H
    clear H
    have H := H1
    clear H1
    obtain rfl := Option.some.inj H
    go_enter Tryd.func11, Tryd.ntmps11
    go_wp2_with (first | ((with_reducible refine gate_dst (N := 1) rfl ?_); refine box_event ?hg (N := 1) ?hd (cs := #[.bool false, .int .i64 a0_1, .int .i64 a0_2]) (t := 26) ?hr ?_; (case hd => rfl); (case hg => rfl); (case hr => first | (go_simp; done) | (go_simp; rfl)); intro gb133 hg w5 hbox hb; have n0_ := Aside0.mk (below_step (by repeat (first | (with_reducible first | exact HB.out | apply below_alloc | apply pw_below_drewN | apply below_drew1) | exact HB.out)) hb); have n1_ := Aside0.mk (hbox); have n2_ := Aside0.mk ((by rw [hg]; exact (below_size (by repeat (first | (with_reducible first | exact HB.out | apply below_alloc | apply pw_below_drewN | apply below_drew1) | exact HB.out))) : w.heap.size ≤ gb133)); have n3_ := Aside0.mk ((by rw [hg]; exact (below_size (by repeat (first | (with_reducible first | exact HB.out | apply below_alloc | apply pw_below_drewN | apply below_drew1) | exact HB.out))) : w.heap.size ≤ gb133)); clear HB; have HB := n0_; have BK133 := n1_; have GW133 := n2_; have GE133 := n3_; clear n0_ n1_ n2_ n3_; clear hb hbox hg; have hcz6_0 : w5.cell? ⟨gb133, 0, none⟩ = some (.bool false) := (blk_cell BK133.out 0).trans rfl; have hcz6_1 : w5.cell? ⟨gb133, 1, none⟩ = some (.int .i64 a0_1) := (blk_cell BK133.out 1).trans rfl; have hcz6_2 : w5.cell? ⟨gb133, 2, none⟩ = some (.int .i64 a0_2) := (blk_cell BK133.out 2).trans rfl; have hfz6_0 := blk_frozen BK133.out 0; have hfz6_1 := blk_frozen BK133.out 1; have hfz6_2 := blk_frozen BK133.out 2))
    go_ret
    exact ⟨by first | rfl | (simp [errW_none, errW_some] <;> rfl) | (simp [*, errW_none, errW_some] <;> rfl), by repeat (first | (with_reducible first | exact HB.out | apply below_alloc | apply pw_below_drewN | apply below_drew1 | refine below_set ?_ GE133.out) | exact HB.out)⟩

/-! ### spec_winDigits: function 15 -/
def spec_winDigits.f : Nat → Int → Option (ByteArray)
  | 0, _ => none
  | k + 1, a0 => if a0 < 10 then (some (strOfNums (([(wrap64 (48 + a0)) % 256] : List Int)))) else ((spec_winDigits.f k (wrap64 (Int.tdiv a0 10))).bind fun t159 => ((spec_winDigits.f k (Int.tmod a0 10)).bind fun t160 => (if t159.size + t160.size ≤ 9223372036854775807 then (some (t159 ++ t160)) else (none))))
theorem spec_winDigits.mono_l : ∀ k, (∀ y0, LeO (spec_winDigits.f k y0) (spec_winDigits.f (k + 1) y0))
  | 0 => fun _ r h => by simp [spec_winDigits.f] at h
  | k + 1 => by
    have ih0 := spec_winDigits.mono_l k
    · intro y0
      unfold spec_winDigits.f
      repeat' first
      | (with_reducible exact ih0 _)
      | (with_reducible exact LeO.refl _)
      | (with_reducible exact LeO.none _)
      | (with_reducible refine LeO.ite ?_ ?_)
      | (with_reducible refine LeO.bind ?_ (fun _ => ?_))
      | exact ih0 _
      | exact LeO.none _
      | refine LeO.ite ?_ ?_
      | refine LeO.bind ?_ (fun _ => ?_)
theorem spec_winDigits.mono : ∀ a0 k, LeO (spec_winDigits.f k a0) (spec_winDigits.f (k + 1) a0) := by
  intro a0 k
  have ih0 := spec_winDigits.mono_l k
  exact ih0 a0
set_option maxHeartbeats 8000000 in
set_option maxRecDepth 100000 in
theorem spec_winDigits.calls (k : Nat) : ∀ (a0 : Int) (r : ByteArray) (w : World) (h : spec_winDigits.f k a0 = some r),
    Calls Tryd.prog 15 #[.int .i64 a0] w fun e w' => e = .returned (.string r) ∧ Below w.heap.size w w' := by
  induction k using Nat.strongRecOn with
  | _ k ih =>
  intro a0 r w h
  cases k with
  | zero => exact absurd h (by simp [spec_winDigits.f])
  | succ k =>
  simp only [spec_winDigits.f] at h
  have HB := Aside0.mk (Below.refl w.heap.size w)
  have H : (if a0 < 10 then (some (strOfNums (([(wrap64 (48 + a0)) % 256] : List Int)))) else ((spec_winDigits.f k (wrap64 (Int.tdiv a0 10))).bind fun t159 => ((spec_winDigits.f k (Int.tmod a0 10)).bind fun t160 => (if t159.size + t160.size ≤ 9223372036854775807 then (some (t159 ++ t160)) else (none))))) = some r := h
  clear h
  by_cases c2 : a0 < 10
  · rw [if_pos c2] at H
    have c2b0 : decide (a0 < 10) = true := decide_eq_true c2
    clear c2
    obtain ⟨y156, hy156⟩ : ∃ y_ : List Int, y_ = (([(wrap64 (48 + a0)) % 256] : List Int)) := ⟨_, rfl⟩
    replace H : (some (strOfNums y156)) = some r := by first | (rw [hy156]; with_reducible exact H) | (have H2_ := (Option.bind_some _ _).symm.trans H; rw [hy156]; with_reducible exact H2_) | (have H2_ := (Option.bind_some _ _).symm.trans H; with_reducible exact H2_) | with_reducible exact H | (rw [hy156]; exact H) | exact H
    have Ny156 := Aside0.mk hy156
    clear hy156
    obtain rfl := Option.some.inj H
    go_enter Tryd.func15, Tryd.ntmps15
    go_wp2_with (first | ((with_reducible refine gate_dst (N := 8) rfl ?_); refine Kd.R_lit (Kd.int .u8) _ 5 ?hg (N := 8) ?hd (xs := ([(wrap64 (48 + a0)) % 256] : List Int)) (inner := [.int .u8 ((wrap64 (48 + a0)) % 256)]) (ok := fun _ => True) (okp := fun _ => True) ?hr ?hp (fun _ hk => hk) trivial (Below.refl _ _) (Nat.le_refl _) (by simp) ?_; (case hd => rfl); (case hg => rfl); (case hr => first | (go_simp; done) | (go_simp; rfl)); (case hp => exact (Reps.one (show Kd.M (Kd.int .u8) _ _ _ ((wrap64 (48 + a0)) % 256) [.int .u8 ((wrap64 (48 + a0)) % 256)] from rfl) (Reps.none _ _))); intro v157 w3 ho4 hb hg_ hnew_; clear hg_ hnew_; (first | rw [← Ny156.out] at ho4 | (simp only [Int.reduceToNat] at ho4; rw [← Ny156.out] at ho4)); have n0_ := Aside0.mk (Kd.R_lower ho4 (below_size (by repeat (first | (with_reducible first | exact HB.out | apply below_alloc | apply pw_below_drewN | apply below_drew1) | exact HB.out)))); have n1_ := Aside0.mk (below_step (by repeat (first | (with_reducible first | exact HB.out | apply below_alloc | apply pw_below_drewN | apply below_drew1) | exact HB.out)) hb); clear HB; have HO158 := n0_; have HB := n1_; clear n0_ n1_; clear hb ho4; have hcv5 := own_string (P := Tryd.prog) Tryd.underlying50 Tryd.underlying5 Tryd.underlying9 (Kd.own_of_R HO158.out)))
    go_ret
    exact ⟨by first | rfl | (simp [errW_none, errW_some] <;> rfl) | (simp [*, errW_none, errW_some] <;> rfl), by repeat (first | (with_reducible first | exact HB.out | apply below_alloc | apply pw_below_drewN | apply below_drew1) | exact HB.out)⟩
  · rw [if_neg c2] at H
    have c2b0 : decide (a0 < 10) = false := decide_eq_false c2
    clear c2
    replace H := Option.bind_eq_some_iff.mp H
    obtain ⟨t159, A60, H⟩ := H
    replace H : ((spec_winDigits.f k (Int.tmod a0 10)).bind fun t160 => (if t159.size + t160.size ≤ 9223372036854775807 then (some (t159 ++ t160)) else (none))) = some r := H
    have A6 := Aside0.mk A60
    clear A60
    replace H := Option.bind_eq_some_iff.mp H
    obtain ⟨t160, A70, H⟩ := H
    replace H : (if t159.size + t160.size ≤ 9223372036854775807 then (some (t159 ++ t160)) else (none)) = some r := H
    have A7 := Aside0.mk A70
    clear A70
    by_cases c8 : t159.size + t160.size ≤ 9223372036854775807
    · rw [if_pos c8] at H
      have c8b0 := eq_true c8
      have c8b1 : decide (t159.size + t160.size ≤ 9223372036854775807) = true := decide_eq_true c8
      try have c8b2 : (9223372036854775807 < t159.size + t160.size) = False := eq_false (Nat.not_lt.2 c8)
      obtain rfl := Option.some.inj H
      go_enter Tryd.func15, Tryd.ntmps15
      go_wp2_with (first | ((with_reducible refine gate_callee (f := 15) rfl ?_); refine goesL_ (some 12) rfl rfl Tryd.func15 (by kernel_rfl) rfl #[.int .i64 (wrap64 (Int.tdiv a0 10))] rfl (by (try simp only [List.map_toArray, List.map_cons, List.map_nil]); first | done | rfl | (simp only [List.length_drop, List.length_take]; rfl)) ?_; (with_reducible refine (ih k (by omega) (wrap64 (Int.tdiv a0 10)) t159 _ A6.out).mono ?_); rintro e w9 ⟨rfl, hb⟩; refine ⟨_, rfl, ?_⟩; have n0_ := Aside0.mk (below_step (by repeat (first | (with_reducible first | exact HB.out | apply below_alloc | apply pw_below_drewN | apply below_drew1) | exact HB.out)) hb); clear HB; have HB := n0_; clear n0_; (try clear hb); (try clear hb2); (try clear hk); (try clear hi)) | ((with_reducible refine gate_callee (f := 15) rfl ?_); refine goesL_ (some 15) rfl rfl Tryd.func15 (by kernel_rfl) rfl #[.int .i64 (Int.tmod a0 10)] rfl (by (try simp only [List.map_toArray, List.map_cons, List.map_nil]); first | done | rfl | (simp only [List.length_drop, List.length_take]; rfl)) ?_; (with_reducible refine (ih k (by omega) (Int.tmod a0 10) t160 _ A7.out).mono ?_); rintro e w10 ⟨rfl, hb⟩; refine ⟨_, rfl, ?_⟩; have n0_ := Aside0.mk (below_step (by repeat (first | (with_reducible first | exact HB.out | apply below_alloc | apply pw_below_drewN | apply below_drew1) | exact HB.out)) hb); clear HB; have HB := n0_; clear n0_; (try clear hb); (try clear hb2); (try clear hk); (try clear hi)))
      go_ret
      exact ⟨by first | rfl | (simp [errW_none, errW_some] <;> rfl) | (simp [*, errW_none, errW_some] <;> rfl), by repeat (first | (with_reducible first | exact HB.out | apply below_alloc | apply pw_below_drewN | apply below_drew1) | exact HB.out)⟩
    · rw [if_neg c8] at H
      exact absurd H (by simp)

/-! ### spec_WinTimeText: function 7 -/
def spec_WinTimeText.f (k : Nat) (a0 : Int) : Option (ByteArray) := if a0 = (-9223372036854775) then (some (⟨#[45, 105, 110, 102]⟩ : ByteArray)) else (if a0 = 9223372036854775 then (some (⟨#[43, 105, 110, 102]⟩ : ByteArray)) else (if a0 = 9223371950454775 then (some (⟨#[103, 108, 111]⟩ : ByteArray)) else (if a0 < 0 then ((spec_winDigits.f k (wrap64 (-a0))).bind fun t161 => (if 1 + t161.size ≤ 9223372036854775807 then (some ((⟨#[45]⟩ : ByteArray) ++ t161)) else (none))) else ((spec_winDigits.f k a0).bind fun t162 => (some t162)))))
theorem spec_WinTimeText.mono : ∀ a0 k, LeO (spec_WinTimeText.f k a0) (spec_WinTimeText.f (k + 1) a0) := by
  intro a0 k
  unfold spec_WinTimeText.f
  repeat' first
      | (with_reducible exact spec_winDigits.mono _ _)
      | (with_reducible exact LeO.refl _)
      | (with_reducible exact LeO.none _)
      | (with_reducible refine LeO.ite ?_ ?_)
      | (with_reducible refine LeO.bind ?_ (fun _ => ?_))
      | exact spec_winDigits.mono _ _
      | exact LeO.none _
      | refine LeO.ite ?_ ?_
      | refine LeO.bind ?_ (fun _ => ?_)
set_option maxHeartbeats 8000000 in
set_option maxRecDepth 100000 in
theorem spec_WinTimeText.calls (k : Nat) (a0 : Int) (r : ByteArray) (w : World) (h : spec_WinTimeText.f k a0 = some r) :
    Calls Tryd.prog 7 #[.int .i64 a0] w fun e w' => e = .returned (.string r) ∧ Below w.heap.size w w' := by
  have HB := Aside0.mk (Below.refl w.heap.size w)
  have H : (if a0 = (-9223372036854775) then (some (⟨#[45, 105, 110, 102]⟩ : ByteArray)) else (if a0 = 9223372036854775 then (some (⟨#[43, 105, 110, 102]⟩ : ByteArray)) else (if a0 = 9223371950454775 then (some (⟨#[103, 108, 111]⟩ : ByteArray)) else (if a0 < 0 then ((spec_winDigits.f k (wrap64 (-a0))).bind fun t161 => (if 1 + t161.size ≤ 9223372036854775807 then (some ((⟨#[45]⟩ : ByteArray) ++ t161)) else (none))) else ((spec_winDigits.f k a0).bind fun t162 => (some t162)))))) = some r := h
  clear h
  by_cases c2 : a0 = (-9223372036854775)
  · rw [if_pos c2] at H
    have c2b0 : (a0 == (-9223372036854775)) = true := beq_iff_eq.mpr c2
    have c2b1 : (a0 != (-9223372036854775)) = false := bne_eq_false_iff_eq.mpr c2
    clear c2
    obtain rfl := Option.some.inj H
    go_enter Tryd.func7, Tryd.ntmps7
    go_wp2
    go_ret
    exact ⟨by first | rfl | (simp [errW_none, errW_some] <;> rfl) | (simp [*, errW_none, errW_some] <;> rfl), by repeat (first | (with_reducible first | exact HB.out | apply below_alloc | apply pw_below_drewN | apply below_drew1) | exact HB.out)⟩
  · rw [if_neg c2] at H
    have c2b0 : (a0 == (-9223372036854775)) = false := beq_eq_false_iff_ne.mpr c2
    have c2b1 : (a0 != (-9223372036854775)) = true := bne_iff_ne.mpr c2
    by_cases c3 : a0 = 9223372036854775
    · rw [if_pos c3] at H
      have c3b0 : (a0 == 9223372036854775) = true := beq_iff_eq.mpr c3
      have c3b1 : (a0 != 9223372036854775) = false := bne_eq_false_iff_eq.mpr c3
      clear c3
      obtain rfl := Option.some.inj H
      go_enter Tryd.func7, Tryd.ntmps7
      go_wp2
      go_ret
      exact ⟨by first | rfl | (simp [errW_none, errW_some] <;> rfl) | (simp [*, errW_none, errW_some] <;> rfl), by repeat (first | (with_reducible first | exact HB.out | apply below_alloc | apply pw_below_drewN | apply below_drew1) | exact HB.out)⟩
    · rw [if_neg c3] at H
      have c3b0 : (a0 == 9223372036854775) = false := beq_eq_false_iff_ne.mpr c3
      have c3b1 : (a0 != 9223372036854775) = true := bne_iff_ne.mpr c3
      by_cases c4 : a0 = 9223371950454775
      · rw [if_pos c4] at H
        have c4b0 : (a0 == 9223371950454775) = true := beq_iff_eq.mpr c4
        have c4b1 : (a0 != 9223371950454775) = false := bne_eq_false_iff_eq.mpr c4
        clear c4
        obtain rfl := Option.some.inj H
        go_enter Tryd.func7, Tryd.ntmps7
        go_wp2
        go_ret
        exact ⟨by first | rfl | (simp [errW_none, errW_some] <;> rfl) | (simp [*, errW_none, errW_some] <;> rfl), by repeat (first | (with_reducible first | exact HB.out | apply below_alloc | apply pw_below_drewN | apply below_drew1) | exact HB.out)⟩
      · rw [if_neg c4] at H
        have c4b0 : (a0 == 9223371950454775) = false := beq_eq_false_iff_ne.mpr c4
        have c4b1 : (a0 != 9223371950454775) = true := bne_iff_ne.mpr c4
        by_cases c5 : a0 < 0
        · rw [if_pos c5] at H
          have c5b0 : decide (a0 < 0) = true := decide_eq_true c5
          clear c5
          replace H := Option.bind_eq_some_iff.mp H
          obtain ⟨t161, A60, H⟩ := H
          replace H : (if 1 + t161.size ≤ 9223372036854775807 then (some ((⟨#[45]⟩ : ByteArray) ++ t161)) else (none)) = some r := H
          have A6 := Aside0.mk A60
          clear A60
          by_cases c7 : 1 + t161.size ≤ 9223372036854775807
          · rw [if_pos c7] at H
            have c7b0 := eq_true c7
            have c7b1 : decide (1 + t161.size ≤ 9223372036854775807) = true := decide_eq_true c7
            try have c7b2 : (9223372036854775807 < 1 + t161.size) = False := eq_false (Nat.not_lt.2 c7)
            obtain rfl := Option.some.inj H
            go_enter Tryd.func7, Tryd.ntmps7
            go_wp2_with (first | ((with_reducible refine gate_callee (f := 15) rfl ?_); refine goesL_ (some 17) rfl rfl Tryd.func15 (by kernel_rfl) rfl #[.int .i64 (wrap64 (-a0))] rfl (by (try simp only [List.map_toArray, List.map_cons, List.map_nil]); first | done | rfl | (simp only [List.length_drop, List.length_take]; rfl)) ?_; (with_reducible refine (spec_winDigits.calls k (wrap64 (-a0)) t161 _ A6.out).mono ?_); rintro e w8 ⟨rfl, hb⟩; refine ⟨_, rfl, ?_⟩; have n0_ := Aside0.mk (below_step (by repeat (first | (with_reducible first | exact HB.out | apply below_alloc | apply pw_below_drewN | apply below_drew1) | exact HB.out)) hb); clear HB; have HB := n0_; clear n0_; (try clear hb); (try clear hb2); (try clear hk); (try clear hi)))
            go_ret
            exact ⟨by first | rfl | (simp [errW_none, errW_some] <;> rfl) | (simp [*, errW_none, errW_some] <;> rfl), by repeat (first | (with_reducible first | exact HB.out | apply below_alloc | apply pw_below_drewN | apply below_drew1) | exact HB.out)⟩
          · rw [if_neg c7] at H
            exact absurd H (by simp)
        · rw [if_neg c5] at H
          have c5b0 : decide (a0 < 0) = false := decide_eq_false c5
          clear c5
          replace H := Option.bind_eq_some_iff.mp H
          obtain ⟨t162, A90, H⟩ := H
          replace H : (some t162) = some r := H
          have A9 := Aside0.mk A90
          clear A90
          obtain rfl := Option.some.inj H
          go_enter Tryd.func7, Tryd.ntmps7
          go_wp2_with (first | ((with_reducible refine gate_callee (f := 15) rfl ?_); refine goesL_ (some 20) rfl rfl Tryd.func15 (by kernel_rfl) rfl #[.int .i64 a0] rfl (by (try simp only [List.map_toArray, List.map_cons, List.map_nil]); first | done | rfl | (simp only [List.length_drop, List.length_take]; rfl)) ?_; (with_reducible refine (spec_winDigits.calls k a0 t162 _ A9.out).mono ?_); rintro e w10 ⟨rfl, hb⟩; refine ⟨_, rfl, ?_⟩; have n0_ := Aside0.mk (below_step (by repeat (first | (with_reducible first | exact HB.out | apply below_alloc | apply pw_below_drewN | apply below_drew1) | exact HB.out)) hb); clear HB; have HB := n0_; clear n0_; (try clear hb); (try clear hb2); (try clear hk); (try clear hi)))
          go_ret
          exact ⟨by first | rfl | (simp [errW_none, errW_some] <;> rfl) | (simp [*, errW_none, errW_some] <;> rfl), by repeat (first | (with_reducible first | exact HB.out | apply below_alloc | apply pw_below_drewN | apply below_drew1) | exact HB.out)⟩

end Go.Proofs.YtdifeleddhefnaaDoor.PFnWinLast
