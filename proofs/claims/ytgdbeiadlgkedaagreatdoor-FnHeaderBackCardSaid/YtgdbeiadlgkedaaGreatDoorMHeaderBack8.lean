/- Contracts and plain laws, several texts in one. -/
import Derived.Test.YtgdbeiadlgkedaaGreatDoorMHeaderBack7
set_option linter.unusedVariables false
set_option linter.unusedSimpArgs false
namespace Go.Proofs.YtgdbeiadlgkedaaGreatDoor.PFnWindowOne
open Go.RowKit Go.Proofs.YtgdbeiadlgkedaaGreatDoorW.PrintWords Go.Proofs.YtgdbeiadlgkedaaGreatDoorW.PrintLast Go.Proofs.YtgdbeiadlgkedaaGreatDoorW.PrintMore
def laws_codSpanOf.l0 : Nat → List (S32) → List (S23) → Int → Int → Option ((List (S32)))
  | 0, _, _, _, _ => none
  | k + 1, x3, x6, x7, x8 => if x8 < x7 then (if 0 ≤ x8 then (if x8 < (x6.length : Int) then (if x3.length < 5864062014805 then (laws_codSpanOf.l0 k (x3 ++ [(⟨(rd_T23 x6 x8).f0, (rd_T23 x6 x8).f1, (rd_T23 x6 x8).f2⟩ : S32)]) x6 x7 (wrap64 (x8 + 1))) else (none)) else (none)) else (none)) else (some x3)
def laws_codSpanOf.f (k : Nat) (l0 : List (S23)) : Option ((List (S32))) := laws_codSpanOf.l0 k ([] : List (S32)) l0 (l0.length : Int) 0
theorem laws_codSpanOf.mono_l : ∀ k, (∀ y0 y1 y2 y3, LeO (laws_codSpanOf.l0 k y0 y1 y2 y3) (laws_codSpanOf.l0 (k + 1) y0 y1 y2 y3))
  | 0 => fun _ _ _ _ r h => by simp [laws_codSpanOf.l0] at h
  | k + 1 => by
    have ih0 := laws_codSpanOf.mono_l k
    · intro y0 y1 y2 y3
      unfold laws_codSpanOf.l0
      repeat' first
      | (with_reducible exact ih0 _ _ _ _)
      | (with_reducible exact LeO.refl _)
      | (with_reducible exact LeO.none _)
      | (with_reducible refine LeO.ite ?_ ?_)
      | (with_reducible refine LeO.bind ?_ (fun _ => ?_))
      | exact ih0 _ _ _ _
      | exact LeO.none _
      | refine LeO.ite ?_ ?_
      | refine LeO.bind ?_ (fun _ => ?_)
theorem laws_codSpanOf.mono : ∀ a0 k, LeO (laws_codSpanOf.f k a0) (laws_codSpanOf.f (k + 1) a0) := by
  intro a0 k
  have ih0 := laws_codSpanOf.mono_l k
  unfold laws_codSpanOf.f
  repeat' first
      | (with_reducible exact ih0 _ _ _ _)
      | (with_reducible exact LeO.refl _)
      | (with_reducible exact LeO.none _)
      | (with_reducible refine LeO.ite ?_ ?_)
      | (with_reducible refine LeO.bind ?_ (fun _ => ?_))
      | exact ih0 _ _ _ _
      | exact LeO.none _
      | refine LeO.ite ?_ ?_
      | refine LeO.bind ?_ (fun _ => ?_)
set_option maxHeartbeats 8000000 in
set_option maxRecDepth 100000 in
theorem laws_codSpanOf.calls (k : Nat) (A0 : Option Addr) (c0 : Nat) (l0 : List (S23)) (r : List (S32)) (w : World) (hr0 : Kd.C k23 w A0 l0.length l0) (hc0 : l0.length ≤ c0) (h : laws_codSpanOf.f k l0 = some r) :
    Calls Tryz.prog 15 #[.slice A0 l0.length c0] w fun e w' => ∃ v0_ : Value, e = .returned (v0_) ∧ Kd.R k32 32 w' w.heap.size (fun _ => True) v0_ r ∧ Below w.heap.size w w' := by
  have hu23 := Tryz.underlying23
  have hu32 := Tryz.underlying32
  have HR0 := Aside0.mk hr0
  have HC0 := Aside0.mk hc0
  clear hr0 hc0
  have HB := Aside0.mk (Below.refl w.heap.size w)
  have H : (laws_codSpanOf.l0 k ([] : List (S32)) l0 (l0.length : Int) 0) = some r := h
  clear h
  have H' := Aside0.mk H
  clear H
  go_enter Tryz.func15, Tryz.ntmps15
  go_wp2
  go_loopg [3, 8] k (fun kq v3 v8 w' => ∃ (x3_1 : List (S32)) (x8_1 : Int), v8 = .int .i64 x8_1 ∧ Aside0 (laws_codSpanOf.l0 kq x3_1 l0 (l0.length : Int) x8_1 = some r) ∧ Aside0 (kq ≤ k) ∧ Aside0 (Kd.R k32 32 w' w.heap.size (fun _ => True) v3 x3_1) ∧ Aside0 (Below w.heap.size w w'))
  case atStart => exact ⟨(([] : List (S32))), (0), (by first | rfl | (simp; done) | (simp [*]; done)), H', ⟨Nat.le_refl _⟩, ⟨by first | exact Kd.R_nil _ _ _ _ _ | exact Kd.N_nil _ _ _ _ _ | exact Kd.V_nil _ _ _ _ _ | exact Kd.Q_nil _ _ _ _ _ | exact Kd.S_nil _ _ _ _ _⟩, ⟨by repeat (first | (with_reducible first | exact HB.out | apply below_alloc | apply pw_below_drewN | apply below_drew1) | exact HB.out)⟩⟩
  case round =>
    clear H'
    try clear c1
    obtain ⟨x3_1, x8_1, rfl, HA, HK1, HO_3, HB⟩ := hrel
    cases gk with
    | zero => exact absurd HA.out (by simp [laws_codSpanOf.l0])
    | succ k1 =>
      have H := HA.out
      clear HA
      simp only [laws_codSpanOf.l0] at H
      by_cases c2 : x8_1 < (l0.length : Int)
      · rw [if_pos c2] at H
        have c2b0 : decide (x8_1 < (l0.length : Int)) = true := decide_eq_true c2
        clear c2
        by_cases c3 : 0 ≤ x8_1
        · rw [if_pos c3] at H
          have c3b0 : decide (0 ≤ x8_1) = true := decide_eq_true c3
          clear c3
          by_cases c4 : x8_1 < (l0.length : Int)
          · rw [if_pos c4] at H
            have c4b0 : decide (x8_1 < (l0.length : Int)) = true := decide_eq_true c4
            clear c4
            by_cases c5 : x3_1.length < 5864062014805
            · rw [if_pos c5] at H
              have LMc5 := Aside0.mk c5
              clear c5
              obtain ⟨y103, hy103⟩ : ∃ y_ : List (S32), y_ = (x3_1 ++ [(⟨(rd_T23 l0 x8_1).f0, (rd_T23 l0 x8_1).f1, (rd_T23 l0 x8_1).f2⟩ : S32)]) := ⟨_, rfl⟩
              replace H : (laws_codSpanOf.l0 k1 y103 l0 (l0.length : Int) (wrap64 (x8_1 + 1))) = some r := by first | (rw [hy103]; with_reducible exact H) | (have H2_ := (Option.bind_some _ _).symm.trans H; rw [hy103]; with_reducible exact H2_) | (have H2_ := (Option.bind_some _ _).symm.trans H; with_reducible exact H2_) | with_reducible exact H | (rw [hy103]; exact H) | exact H
              have Ny103 := Aside0.mk hy103
              clear hy103
              have H' := Aside0.mk H
              clear H
              have p101 : 0 ≤ (x8_1 : Int) := of_decide_eq_true (by first | (with_reducible assumption) | assumption)
              have q101 : x8_1 < (l0.length : Int) := of_decide_eq_true (by first | (with_reducible assumption) | assumption)
              obtain ⟨ad101, e101, hx101_0, hx101_1, hx101_2⟩ := at_T23 HR0.out x8_1 p101 q101
              cases e101
              replace hx101_0 := (HB.out.cell (World.block_lt_of_cell? w _ hx101_0)).trans hx101_0
              replace hx101_1 := (HB.out.cell (World.block_lt_of_cell? w _ hx101_1)).trans hx101_1
              replace hx101_2 := (HB.out.cell (World.block_lt_of_cell? w _ hx101_2)).trans hx101_2
              replace p101 := eq_true p101
              replace q101 := eq_true q101
              go_wp2_with (first | ((with_reducible refine gate_dst (N := 5) rfl ?_); refine box_event ?hg (N := 5) ?hd (cs := #[.bool false, .int .i64 0, .int .i64 0]) (t := 23) ?hr ?_; (case hd => rfl); (case hg => rfl); (case hr => first | (go_simp; done) | (go_simp; rfl)); intro gb102 hg w6 hbox hb; have n0_ := Aside0.mk (Kd.R_below (by (with_reducible repeat (first | apply Kd.R_alloc | apply Kd.R_drewN | apply Kd.R_drew)); exact HO_3.out) hb); have n1_ := Aside0.mk (below_step (by repeat (first | (with_reducible first | exact HB.out | apply below_alloc | apply pw_below_drewN | apply below_drew1) | exact HB.out)) hb); have n2_ := Aside0.mk (hbox); have n3_ := Aside0.mk ((by rw [hg]; exact (below_size (by repeat (first | (with_reducible first | exact HB.out | apply below_alloc | apply pw_below_drewN | apply below_drew1) | exact HB.out))) : w.heap.size ≤ gb102)); have n4_ := Aside0.mk ((by rw [hg]; exact (below_size (by repeat (first | (with_reducible first | exact HB.out | apply below_alloc | apply pw_below_drewN | apply below_drew1) | exact HB.out))) : w.heap.size ≤ gb102)); clear HO_3; clear HB; have HO_3 := n0_; have HB := n1_; have BK102 := n2_; have GW102 := n3_; have GE102 := n4_; clear n0_ n1_ n2_ n3_ n4_; clear hb hbox hg; have hcz7_0 : w6.cell? ⟨gb102, 0, none⟩ = some (.bool false) := (blk_cell BK102.out 0).trans rfl; have hcz7_1 : w6.cell? ⟨gb102, 1, none⟩ = some (.int .i64 0) := (blk_cell BK102.out 1).trans rfl; have hcz7_2 : w6.cell? ⟨gb102, 2, none⟩ = some (.int .i64 0) := (blk_cell BK102.out 2).trans rfl; have hfz7_0 := blk_frozen BK102.out 0; have hfz7_1 := blk_frozen BK102.out 1; have hfz7_2 := blk_frozen BK102.out 2) | ((with_reducible refine gate_builtin (b := .append) (xs := #[.tmp 12, .tmp 20]) rfl ?_); at_builtin; refine Kd.R_append k32 (w0 := w) w.heap.size rfl (.tmp 12) (.tmp 20) 33 32 (.agg #[(.bool false), (.int .i64 0), (.int .i64 0)]) 24 rfl Tryz.underlying33 info32 rfl (by decide) (by omega) u3 x3_1 (⟨(rd_T23 l0 x8_1).f0, (rd_T23 l0 x8_1).f1, (rd_T23 l0 x8_1).f2⟩ : S32) [.bool ((rd_T23 l0 x8_1).f0), .int .i64 ((rd_T23 l0 x8_1).f1), .int .i64 ((rd_T23 l0 x8_1).f2)] (fun _ => True) (fun _ => False) rfl (by first | (go_simp; done) | (go_simp; rfl)) ?aP (fun _ hk => hk.elim) ?aF ?aO ?aB ?aS ?aL ?_; (case aP => exact k32_mkM _ _ _ (⟨(rd_T23 l0 x8_1).f0, (rd_T23 l0 x8_1).f1, (rd_T23 l0 x8_1).f2⟩ : S32)); (case aB => exact (by repeat (first | (with_reducible first | exact HB.out | apply below_alloc | apply pw_below_drewN | apply below_drew1 | refine below_set ?_ GE102.out) | exact HB.out))); (case aF => exact (fun _ _ => trivial)); (case aO => exact (by (with_reducible repeat (first | apply Kd.R_alloc | apply Kd.R_drewN | apply Kd.R_drew)); exact Kd.R_mono (Kd.R_far (p := ⟨gb102, 2, none⟩) (Kd.R_far (p := ⟨gb102, 1, none⟩) (Kd.R_far (p := ⟨gb102, 0, none⟩) (Kd.R_types HO_3.out BK102.out (by decide)) (fun _ hk => hk.2) (.bool ((rd_T23 l0 x8_1).f0))) (fun _ hk => hk.2) (.int .i64 ((rd_T23 l0 x8_1).f1))) (fun _ hk => hk.2) (.int .i64 ((rd_T23 l0 x8_1).f2))) (fun _ hk => trivial))); (case aS => exact (below_size (by repeat (first | (with_reducible first | exact HB.out | apply below_alloc | apply pw_below_drewN | apply below_drew1 | refine below_set ?_ GE102.out) | exact HB.out)))); (case aL => have := LMc5.out; omega); intro v104 w8 ho hb hg hat; rw [← Ny103.out] at ho; have n0_ := Aside0.mk (blk_grown (g := gb102) (o := .cells #[.bool ((rd_T23 l0 x8_1).f0), .int .i64 ((rd_T23 l0 x8_1).f1), .int .i64 ((rd_T23 l0 x8_1).f2)] 23 (0, 0)) (by (with_reducible repeat (first | refine blk_drewN ?_ _ | refine blk_drew ?_ | refine blk_alloc ?_ _)); refine blk_put (cs := #[.bool ((rd_T23 l0 x8_1).f0), .int .i64 ((rd_T23 l0 x8_1).f1), .int .i64 0]) ?_ 2 _ rfl; (with_reducible repeat (first | refine blk_drewN ?_ _ | refine blk_drew ?_ | refine blk_alloc ?_ _)); refine blk_put (cs := #[.bool ((rd_T23 l0 x8_1).f0), .int .i64 0, .int .i64 0]) ?_ 1 _ rfl; (with_reducible repeat (first | refine blk_drewN ?_ _ | refine blk_drew ?_ | refine blk_alloc ?_ _)); refine blk_put (cs := #[.bool false, .int .i64 0, .int .i64 0]) ?_ 0 _ rfl; (with_reducible repeat (first | refine blk_drewN ?_ _ | refine blk_drew ?_ | refine blk_alloc ?_ _)); exact BK102.out) hg (Kd.R_ne HO_3.out BK102.out (by decide))); have n1_ := Aside0.mk (hb); have n2_ := Aside0.mk (ho); clear BK102; clear HB; clear HO_3; have BK102 := n0_; have HB := n1_; have HO105 := n2_; clear n0_ n1_ n2_; clear ho hb hg hat))
              go_roundg k1
              case measure => have := HK1.out; omega
              case rel => exact ⟨(y103), (wrap64 (x8_1 + 1)), (by first | rfl | (simp; done) | (simp [*]; done)), H', ⟨by have := HK1.out; omega⟩, ⟨by (with_reducible repeat (first | apply Kd.R_alloc | apply Kd.R_drewN | apply Kd.R_drew)); exact HO105.out⟩, ⟨by repeat (first | (with_reducible first | exact HB.out | apply below_alloc | apply pw_below_drewN | apply below_drew1 | refine below_set ?_ GE102.out) | exact HB.out)⟩⟩
            · rw [if_neg c5] at H
              exact absurd H (by simp)
          · rw [if_neg c4] at H
            exact absurd H (by simp)
        · rw [if_neg c3] at H
          exact absurd H (by simp)
      · rw [if_neg c2] at H
        have c2b0 : decide (x8_1 < (l0.length : Int)) = false := decide_eq_false c2
        clear c2
        obtain rfl := Option.some.inj H
        go_wp2
        go_ret
        exact ⟨_, by first | rfl | (simp [errW_none, errW_some] <;> rfl) | (simp [*, errW_none, errW_some] <;> rfl), by (with_reducible repeat (first | apply Kd.R_alloc | apply Kd.R_drewN | apply Kd.R_drew)); exact HO_3.out, by repeat (first | (with_reducible first | exact HB.out | apply below_alloc | apply pw_below_drewN | apply below_drew1) | exact HB.out)⟩
def spec_CodSpansAre.l0 : Nat → List (S32) → Int → Int → Option (Bool)
  | 0, _, _, _ => none
  | k + 1, x8, x9, x10 => if x10 < x9 then (if 0 ≤ x10 then (if x10 < (x8.length : Int) then (if (rd_T32 x8 x10).f0 = true then (some false) else (if ((rd_T32 x8 x10).f1) < (-9223372036854775) then (some false) else (if ((rd_T32 x8 x10).f2) > 9223372036854775 then (some false) else (if ((rd_T32 x8 x10).f2) < ((rd_T32 x8 x10).f1) then (some false) else (spec_CodSpansAre.l0 k x8 x9 (wrap64 (x10 + 1))))))) else (none)) else (none)) else (some true)
def spec_CodSpansAre.f (k : Nat) (l0 : List (S32)) : Option (Bool) := if (l0.length : Int) > 20 then (some false) else (spec_CodSpansAre.l0 k l0 (l0.length : Int) 0)
theorem spec_CodSpansAre.mono_l : ∀ k, (∀ y0 y1 y2, LeO (spec_CodSpansAre.l0 k y0 y1 y2) (spec_CodSpansAre.l0 (k + 1) y0 y1 y2))
  | 0 => fun _ _ _ r h => by simp [spec_CodSpansAre.l0] at h
  | k + 1 => by
    have ih0 := spec_CodSpansAre.mono_l k
    · intro y0 y1 y2
      unfold spec_CodSpansAre.l0
      repeat' first
      | (with_reducible exact ih0 _ _ _)
      | (with_reducible exact LeO.refl _)
      | (with_reducible exact LeO.none _)
      | (with_reducible refine LeO.ite ?_ ?_)
      | (with_reducible refine LeO.bind ?_ (fun _ => ?_))
      | exact ih0 _ _ _
      | exact LeO.none _
      | refine LeO.ite ?_ ?_
      | refine LeO.bind ?_ (fun _ => ?_)
theorem spec_CodSpansAre.mono : ∀ a0 k, LeO (spec_CodSpansAre.f k a0) (spec_CodSpansAre.f (k + 1) a0) := by
  intro a0 k
  have ih0 := spec_CodSpansAre.mono_l k
  unfold spec_CodSpansAre.f
  repeat' first
      | (with_reducible exact ih0 _ _ _)
      | (with_reducible exact LeO.refl _)
      | (with_reducible exact LeO.none _)
      | (with_reducible refine LeO.ite ?_ ?_)
      | (with_reducible refine LeO.bind ?_ (fun _ => ?_))
      | exact ih0 _ _ _
      | exact LeO.none _
      | refine LeO.ite ?_ ?_
      | refine LeO.bind ?_ (fun _ => ?_)
set_option maxHeartbeats 8000000 in
set_option maxRecDepth 100000 in
theorem spec_CodSpansAre.calls (k : Nat) (A0 : Option Addr) (c0 : Nat) (l0 : List (S32)) (r : Bool) (w : World) (hr0 : Kd.C k32 w A0 l0.length l0) (hc0 : l0.length ≤ c0) (h : spec_CodSpansAre.f k l0 = some r) :
    Calls Tryz.prog 33 #[.slice A0 l0.length c0] w fun e w' => e = .returned (.bool r) ∧ Below w.heap.size w w' := by
  have hu32 := Tryz.underlying32
  have HR0 := Aside0.mk hr0
  have HC0 := Aside0.mk hc0
  clear hr0 hc0
  have HB := Aside0.mk (Below.refl w.heap.size w)
  have H : (if (l0.length : Int) > 20 then (some false) else (spec_CodSpansAre.l0 k l0 (l0.length : Int) 0)) = some r := h
  clear h
  by_cases c2 : (l0.length : Int) > 20
  · rw [if_pos c2] at H
    have c2b0 : decide (20 < (l0.length : Int)) = true := decide_eq_true c2
    have c2b1 : decide (20 < l0.length) = true := decide_eq_true (by omega)
    clear c2
    obtain rfl := Option.some.inj H
    go_enter Tryz.func33, Tryz.ntmps33
    go_wp2
    go_ret
    exact ⟨by first | rfl | (simp [errW_none, errW_some] <;> rfl) | (simp [*, errW_none, errW_some] <;> rfl), by repeat (first | (with_reducible first | exact HB.out | apply below_alloc | apply pw_below_drewN | apply below_drew1) | exact HB.out)⟩
  · rw [if_neg c2] at H
    have c2b0 : decide (20 < (l0.length : Int)) = false := decide_eq_false c2
    have c2b1 : decide (20 < l0.length) = false := decide_eq_false (by omega)
    clear c2
    have H' := Aside0.mk H
    clear H
    go_enter Tryz.func33, Tryz.ntmps33
    go_wp2
    go_loopg [10] k (fun kq v10 w' => ∃ (x10_1 : Int), v10 = .int .i64 x10_1 ∧ Aside0 (spec_CodSpansAre.l0 kq l0 (l0.length : Int) x10_1 = some r) ∧ Aside0 (kq ≤ k) ∧ Aside0 (Below w.heap.size w w'))
    case atStart => exact ⟨(0), (by first | rfl | (simp; done) | (simp [*]; done)), H', ⟨Nat.le_refl _⟩, ⟨by repeat (first | (with_reducible first | exact HB.out | apply below_alloc | apply pw_below_drewN | apply below_drew1) | exact HB.out)⟩⟩
    case round =>
      clear H'
      try clear c2
      try clear c2b0
      try clear c2b1
      try clear p2
      obtain ⟨x10_1, rfl, HA, HK1, HB⟩ := hrel
      cases gk with
      | zero => exact absurd HA.out (by simp [spec_CodSpansAre.l0])
      | succ k1 =>
        have H := HA.out
        clear HA
        simp only [spec_CodSpansAre.l0] at H
        by_cases c3 : x10_1 < (l0.length : Int)
        · rw [if_pos c3] at H
          have c3b0 : decide (x10_1 < (l0.length : Int)) = true := decide_eq_true c3
          clear c3
          by_cases c4 : 0 ≤ x10_1
          · rw [if_pos c4] at H
            have c4b0 : decide (0 ≤ x10_1) = true := decide_eq_true c4
            clear c4
            by_cases c5 : x10_1 < (l0.length : Int)
            · rw [if_pos c5] at H
              have c5b0 : decide (x10_1 < (l0.length : Int)) = true := decide_eq_true c5
              clear c5
              obtain ⟨bq6, hbq6⟩ : ∃ b_ : Bool, b_ = ((rd_T32 l0 x10_1).f0) := ⟨_, rfl⟩
              replace H : (if bq6 = true then (some false) else (if ((rd_T32 l0 x10_1).f1) < (-9223372036854775) then (some false) else (if ((rd_T32 l0 x10_1).f2) > 9223372036854775 then (some false) else (if ((rd_T32 l0 x10_1).f2) < ((rd_T32 l0 x10_1).f1) then (some false) else (spec_CodSpansAre.l0 k1 l0 (l0.length : Int) (wrap64 (x10_1 + 1))))))) = some r := by rw [← hbq6] at H; exact H
              have Nbq6 := Aside0.mk hbq6
              clear hbq6
              by_cases c7 : bq6 = true
              · subst c7
                have H1 : (some false) = some r := by rw [if_pos rfl] at H; exact H
                clear H
                have H := H1
                clear H1
                obtain rfl := Option.some.inj H
                have p106 : 0 ≤ (x10_1 : Int) := of_decide_eq_true (by first | (with_reducible assumption) | assumption)
                have q106 : x10_1 < (l0.length : Int) := of_decide_eq_true (by first | (with_reducible assumption) | assumption)
                obtain ⟨ad106, e106, hx106_0, hx106_1, hx106_2⟩ := at_T32 HR0.out x10_1 p106 q106
                (try rw [← Nbq6.out] at hx106_0)
                cases e106
                replace hx106_0 := (HB.out.cell (World.block_lt_of_cell? w _ hx106_0)).trans hx106_0
                replace hx106_1 := (HB.out.cell (World.block_lt_of_cell? w _ hx106_1)).trans hx106_1
                replace hx106_2 := (HB.out.cell (World.block_lt_of_cell? w _ hx106_2)).trans hx106_2
                replace p106 := eq_true p106
                replace q106 := eq_true q106
                go_wp2_with (first | ((with_reducible refine gate_dst (N := 4) rfl ?_); refine box_event ?hg (N := 4) ?hd (cs := #[.bool false, .int .i64 0, .int .i64 0]) (t := 32) ?hr ?_; (case hd => rfl); (case hg => rfl); (case hr => first | (go_simp; done) | (go_simp; rfl)); intro gb107 hg w8 hbox hb; have n0_ := Aside0.mk (below_step (by repeat (first | (with_reducible first | exact HB.out | apply below_alloc | apply pw_below_drewN | apply below_drew1) | exact HB.out)) hb); have n1_ := Aside0.mk (hbox); have n2_ := Aside0.mk ((by rw [hg]; exact (below_size (by repeat (first | (with_reducible first | exact HB.out | apply below_alloc | apply pw_below_drewN | apply below_drew1) | exact HB.out))) : w.heap.size ≤ gb107)); have n3_ := Aside0.mk ((by rw [hg]; exact (below_size (by repeat (first | (with_reducible first | exact HB.out | apply below_alloc | apply pw_below_drewN | apply below_drew1) | exact HB.out))) : w.heap.size ≤ gb107)); clear HB; have HB := n0_; have BK107 := n1_; have GW107 := n2_; have GE107 := n3_; clear n0_ n1_ n2_ n3_; clear hb hbox hg; have hcz9_0 : w8.cell? ⟨gb107, 0, none⟩ = some (.bool false) := (blk_cell BK107.out 0).trans rfl; have hcz9_1 : w8.cell? ⟨gb107, 1, none⟩ = some (.int .i64 0) := (blk_cell BK107.out 1).trans rfl; have hcz9_2 : w8.cell? ⟨gb107, 2, none⟩ = some (.int .i64 0) := (blk_cell BK107.out 2).trans rfl; have hfz9_0 := blk_frozen BK107.out 0; have hfz9_1 := blk_frozen BK107.out 1; have hfz9_2 := blk_frozen BK107.out 2))
                go_ret
                exact ⟨by first | rfl | (simp [errW_none, errW_some] <;> rfl) | (simp [*, errW_none, errW_some] <;> rfl), by repeat (first | (with_reducible first | exact HB.out | apply below_alloc | apply pw_below_drewN | apply below_drew1 | refine below_set ?_ GE107.out) | exact HB.out)⟩
              · replace c7 := Bool.eq_false_iff.mpr c7
                subst c7
                have H1 : (if ((rd_T32 l0 x10_1).f1) < (-9223372036854775) then (some false) else (if ((rd_T32 l0 x10_1).f2) > 9223372036854775 then (some false) else (if ((rd_T32 l0 x10_1).f2) < ((rd_T32 l0 x10_1).f1) then (some false) else (spec_CodSpansAre.l0 k1 l0 (l0.length : Int) (wrap64 (x10_1 + 1)))))) = some r := by rw [if_neg (show ¬ (false = true) by decide)] at H; exact H
                clear H
                have H := H1
                clear H1
                by_cases c10 : ((rd_T32 l0 x10_1).f1) < (-9223372036854775)
                · rw [if_pos c10] at H
                  have c10b0 : decide (((rd_T32 l0 x10_1).f1) < (-9223372036854775)) = true := decide_eq_true c10
                  clear c10
                  obtain rfl := Option.some.inj H
                  have p106 : 0 ≤ (x10_1 : Int) := of_decide_eq_true (by first | (with_reducible assumption) | assumption)
                  have q106 : x10_1 < (l0.length : Int) := of_decide_eq_true (by first | (with_reducible assumption) | assumption)
                  obtain ⟨ad106, e106, hx106_0, hx106_1, hx106_2⟩ := at_T32 HR0.out x10_1 p106 q106
                  (try rw [← Nbq6.out] at hx106_0)
                  cases e106
                  replace hx106_0 := (HB.out.cell (World.block_lt_of_cell? w _ hx106_0)).trans hx106_0
                  replace hx106_1 := (HB.out.cell (World.block_lt_of_cell? w _ hx106_1)).trans hx106_1
                  replace hx106_2 := (HB.out.cell (World.block_lt_of_cell? w _ hx106_2)).trans hx106_2
                  replace p106 := eq_true p106
                  replace q106 := eq_true q106
                  go_wp2_with (first | ((with_reducible refine gate_dst (N := 4) rfl ?_); refine box_event ?hg (N := 4) ?hd (cs := #[.bool false, .int .i64 0, .int .i64 0]) (t := 32) ?hr ?_; (case hd => rfl); (case hg => rfl); (case hr => first | (go_simp; done) | (go_simp; rfl)); intro gb107 hg w11 hbox hb; have n0_ := Aside0.mk (below_step (by repeat (first | (with_reducible first | exact HB.out | apply below_alloc | apply pw_below_drewN | apply below_drew1) | exact HB.out)) hb); have n1_ := Aside0.mk (hbox); have n2_ := Aside0.mk ((by rw [hg]; exact (below_size (by repeat (first | (with_reducible first | exact HB.out | apply below_alloc | apply pw_below_drewN | apply below_drew1) | exact HB.out))) : w.heap.size ≤ gb107)); have n3_ := Aside0.mk ((by rw [hg]; exact (below_size (by repeat (first | (with_reducible first | exact HB.out | apply below_alloc | apply pw_below_drewN | apply below_drew1) | exact HB.out))) : w.heap.size ≤ gb107)); clear HB; have HB := n0_; have BK107 := n1_; have GW107 := n2_; have GE107 := n3_; clear n0_ n1_ n2_ n3_; clear hb hbox hg; have hcz12_0 : w11.cell? ⟨gb107, 0, none⟩ = some (.bool false) := (blk_cell BK107.out 0).trans rfl; have hcz12_1 : w11.cell? ⟨gb107, 1, none⟩ = some (.int .i64 0) := (blk_cell BK107.out 1).trans rfl; have hcz12_2 : w11.cell? ⟨gb107, 2, none⟩ = some (.int .i64 0) := (blk_cell BK107.out 2).trans rfl; have hfz12_0 := blk_frozen BK107.out 0; have hfz12_1 := blk_frozen BK107.out 1; have hfz12_2 := blk_frozen BK107.out 2))
                  go_ret
                  exact ⟨by first | rfl | (simp [errW_none, errW_some] <;> rfl) | (simp [*, errW_none, errW_some] <;> rfl), by repeat (first | (with_reducible first | exact HB.out | apply below_alloc | apply pw_below_drewN | apply below_drew1 | refine below_set ?_ GE107.out) | exact HB.out)⟩
                · rw [if_neg c10] at H
                  have c10b0 : decide (((rd_T32 l0 x10_1).f1) < (-9223372036854775)) = false := decide_eq_false c10
                  clear c10
                  by_cases c13 : ((rd_T32 l0 x10_1).f2) > 9223372036854775
                  · rw [if_pos c13] at H
                    have c13b0 : decide (9223372036854775 < ((rd_T32 l0 x10_1).f2)) = true := decide_eq_true c13
                    clear c13
                    obtain rfl := Option.some.inj H
                    have p106 : 0 ≤ (x10_1 : Int) := of_decide_eq_true (by first | (with_reducible assumption) | assumption)
                    have q106 : x10_1 < (l0.length : Int) := of_decide_eq_true (by first | (with_reducible assumption) | assumption)
                    obtain ⟨ad106, e106, hx106_0, hx106_1, hx106_2⟩ := at_T32 HR0.out x10_1 p106 q106
                    (try rw [← Nbq6.out] at hx106_0)
                    cases e106
                    replace hx106_0 := (HB.out.cell (World.block_lt_of_cell? w _ hx106_0)).trans hx106_0
                    replace hx106_1 := (HB.out.cell (World.block_lt_of_cell? w _ hx106_1)).trans hx106_1
                    replace hx106_2 := (HB.out.cell (World.block_lt_of_cell? w _ hx106_2)).trans hx106_2
                    replace p106 := eq_true p106
                    replace q106 := eq_true q106
                    go_wp2_with (first | ((with_reducible refine gate_dst (N := 4) rfl ?_); refine box_event ?hg (N := 4) ?hd (cs := #[.bool false, .int .i64 0, .int .i64 0]) (t := 32) ?hr ?_; (case hd => rfl); (case hg => rfl); (case hr => first | (go_simp; done) | (go_simp; rfl)); intro gb107 hg w14 hbox hb; have n0_ := Aside0.mk (below_step (by repeat (first | (with_reducible first | exact HB.out | apply below_alloc | apply pw_below_drewN | apply below_drew1) | exact HB.out)) hb); have n1_ := Aside0.mk (hbox); have n2_ := Aside0.mk ((by rw [hg]; exact (below_size (by repeat (first | (with_reducible first | exact HB.out | apply below_alloc | apply pw_below_drewN | apply below_drew1) | exact HB.out))) : w.heap.size ≤ gb107)); have n3_ := Aside0.mk ((by rw [hg]; exact (below_size (by repeat (first | (with_reducible first | exact HB.out | apply below_alloc | apply pw_below_drewN | apply below_drew1) | exact HB.out))) : w.heap.size ≤ gb107)); clear HB; have HB := n0_; have BK107 := n1_; have GW107 := n2_; have GE107 := n3_; clear n0_ n1_ n2_ n3_; clear hb hbox hg; have hcz15_0 : w14.cell? ⟨gb107, 0, none⟩ = some (.bool false) := (blk_cell BK107.out 0).trans rfl; have hcz15_1 : w14.cell? ⟨gb107, 1, none⟩ = some (.int .i64 0) := (blk_cell BK107.out 1).trans rfl; have hcz15_2 : w14.cell? ⟨gb107, 2, none⟩ = some (.int .i64 0) := (blk_cell BK107.out 2).trans rfl; have hfz15_0 := blk_frozen BK107.out 0; have hfz15_1 := blk_frozen BK107.out 1; have hfz15_2 := blk_frozen BK107.out 2))
                    go_ret
                    exact ⟨by first | rfl | (simp [errW_none, errW_some] <;> rfl) | (simp [*, errW_none, errW_some] <;> rfl), by repeat (first | (with_reducible first | exact HB.out | apply below_alloc | apply pw_below_drewN | apply below_drew1 | refine below_set ?_ GE107.out) | exact HB.out)⟩
                  · rw [if_neg c13] at H
                    have c13b0 : decide (9223372036854775 < ((rd_T32 l0 x10_1).f2)) = false := decide_eq_false c13
                    clear c13
                    by_cases c16 : ((rd_T32 l0 x10_1).f2) < ((rd_T32 l0 x10_1).f1)
                    · rw [if_pos c16] at H
                      have c16b0 : decide (((rd_T32 l0 x10_1).f2) < ((rd_T32 l0 x10_1).f1)) = true := decide_eq_true c16
                      clear c16
                      obtain rfl := Option.some.inj H
                      have p106 : 0 ≤ (x10_1 : Int) := of_decide_eq_true (by first | (with_reducible assumption) | assumption)
                      have q106 : x10_1 < (l0.length : Int) := of_decide_eq_true (by first | (with_reducible assumption) | assumption)
                      obtain ⟨ad106, e106, hx106_0, hx106_1, hx106_2⟩ := at_T32 HR0.out x10_1 p106 q106
                      (try rw [← Nbq6.out] at hx106_0)
                      cases e106
                      replace hx106_0 := (HB.out.cell (World.block_lt_of_cell? w _ hx106_0)).trans hx106_0
                      replace hx106_1 := (HB.out.cell (World.block_lt_of_cell? w _ hx106_1)).trans hx106_1
                      replace hx106_2 := (HB.out.cell (World.block_lt_of_cell? w _ hx106_2)).trans hx106_2
                      replace p106 := eq_true p106
                      replace q106 := eq_true q106
                      go_wp2_with (first | ((with_reducible refine gate_dst (N := 4) rfl ?_); refine box_event ?hg (N := 4) ?hd (cs := #[.bool false, .int .i64 0, .int .i64 0]) (t := 32) ?hr ?_; (case hd => rfl); (case hg => rfl); (case hr => first | (go_simp; done) | (go_simp; rfl)); intro gb107 hg w17 hbox hb; have n0_ := Aside0.mk (below_step (by repeat (first | (with_reducible first | exact HB.out | apply below_alloc | apply pw_below_drewN | apply below_drew1) | exact HB.out)) hb); have n1_ := Aside0.mk (hbox); have n2_ := Aside0.mk ((by rw [hg]; exact (below_size (by repeat (first | (with_reducible first | exact HB.out | apply below_alloc | apply pw_below_drewN | apply below_drew1) | exact HB.out))) : w.heap.size ≤ gb107)); have n3_ := Aside0.mk ((by rw [hg]; exact (below_size (by repeat (first | (with_reducible first | exact HB.out | apply below_alloc | apply pw_below_drewN | apply below_drew1) | exact HB.out))) : w.heap.size ≤ gb107)); clear HB; have HB := n0_; have BK107 := n1_; have GW107 := n2_; have GE107 := n3_; clear n0_ n1_ n2_ n3_; clear hb hbox hg; have hcz18_0 : w17.cell? ⟨gb107, 0, none⟩ = some (.bool false) := (blk_cell BK107.out 0).trans rfl; have hcz18_1 : w17.cell? ⟨gb107, 1, none⟩ = some (.int .i64 0) := (blk_cell BK107.out 1).trans rfl; have hcz18_2 : w17.cell? ⟨gb107, 2, none⟩ = some (.int .i64 0) := (blk_cell BK107.out 2).trans rfl; have hfz18_0 := blk_frozen BK107.out 0; have hfz18_1 := blk_frozen BK107.out 1; have hfz18_2 := blk_frozen BK107.out 2))
                      go_ret
                      exact ⟨by first | rfl | (simp [errW_none, errW_some] <;> rfl) | (simp [*, errW_none, errW_some] <;> rfl), by repeat (first | (with_reducible first | exact HB.out | apply below_alloc | apply pw_below_drewN | apply below_drew1 | refine below_set ?_ GE107.out) | exact HB.out)⟩
                    · rw [if_neg c16] at H
                      have c16b0 : decide (((rd_T32 l0 x10_1).f2) < ((rd_T32 l0 x10_1).f1)) = false := decide_eq_false c16
                      clear c16
                      have H' := Aside0.mk H
                      clear H
                      have p106 : 0 ≤ (x10_1 : Int) := of_decide_eq_true (by first | (with_reducible assumption) | assumption)
                      have q106 : x10_1 < (l0.length : Int) := of_decide_eq_true (by first | (with_reducible assumption) | assumption)
                      obtain ⟨ad106, e106, hx106_0, hx106_1, hx106_2⟩ := at_T32 HR0.out x10_1 p106 q106
                      (try rw [← Nbq6.out] at hx106_0)
                      cases e106
                      replace hx106_0 := (HB.out.cell (World.block_lt_of_cell? w _ hx106_0)).trans hx106_0
                      replace hx106_1 := (HB.out.cell (World.block_lt_of_cell? w _ hx106_1)).trans hx106_1
                      replace hx106_2 := (HB.out.cell (World.block_lt_of_cell? w _ hx106_2)).trans hx106_2
                      replace p106 := eq_true p106
                      replace q106 := eq_true q106
                      go_wp2_with (first | ((with_reducible refine gate_dst (N := 4) rfl ?_); refine box_event ?hg (N := 4) ?hd (cs := #[.bool false, .int .i64 0, .int .i64 0]) (t := 32) ?hr ?_; (case hd => rfl); (case hg => rfl); (case hr => first | (go_simp; done) | (go_simp; rfl)); intro gb107 hg w19 hbox hb; have n0_ := Aside0.mk (below_step (by repeat (first | (with_reducible first | exact HB.out | apply below_alloc | apply pw_below_drewN | apply below_drew1) | exact HB.out)) hb); have n1_ := Aside0.mk (hbox); have n2_ := Aside0.mk ((by rw [hg]; exact (below_size (by repeat (first | (with_reducible first | exact HB.out | apply below_alloc | apply pw_below_drewN | apply below_drew1) | exact HB.out))) : w.heap.size ≤ gb107)); have n3_ := Aside0.mk ((by rw [hg]; exact (below_size (by repeat (first | (with_reducible first | exact HB.out | apply below_alloc | apply pw_below_drewN | apply below_drew1) | exact HB.out))) : w.heap.size ≤ gb107)); clear HB; have HB := n0_; have BK107 := n1_; have GW107 := n2_; have GE107 := n3_; clear n0_ n1_ n2_ n3_; clear hb hbox hg; have hcz20_0 : w19.cell? ⟨gb107, 0, none⟩ = some (.bool false) := (blk_cell BK107.out 0).trans rfl; have hcz20_1 : w19.cell? ⟨gb107, 1, none⟩ = some (.int .i64 0) := (blk_cell BK107.out 1).trans rfl; have hcz20_2 : w19.cell? ⟨gb107, 2, none⟩ = some (.int .i64 0) := (blk_cell BK107.out 2).trans rfl; have hfz20_0 := blk_frozen BK107.out 0; have hfz20_1 := blk_frozen BK107.out 1; have hfz20_2 := blk_frozen BK107.out 2))
                      go_roundg k1
                      case measure => have := HK1.out; omega
                      case rel => exact ⟨(wrap64 (x10_1 + 1)), (by first | rfl | (simp; done) | (simp [*]; done)), H', ⟨by have := HK1.out; omega⟩, ⟨by repeat (first | (with_reducible first | exact HB.out | apply below_alloc | apply pw_below_drewN | apply below_drew1 | refine below_set ?_ GE107.out) | exact HB.out)⟩⟩
            · rw [if_neg c5] at H
              exact absurd H (by simp)
          · rw [if_neg c4] at H
            exact absurd H (by simp)
        · rw [if_neg c3] at H
          have c3b0 : decide (x10_1 < (l0.length : Int)) = false := decide_eq_false c3
          clear c3
          obtain rfl := Option.some.inj H
          go_wp2
          go_ret
          exact ⟨by first | rfl | (simp [errW_none, errW_some] <;> rfl) | (simp [*, errW_none, errW_some] <;> rfl), by repeat (first | (with_reducible first | exact HB.out | apply below_alloc | apply pw_below_drewN | apply below_drew1) | exact HB.out)⟩
def laws_codSpanFew.f (k : Nat) (l0 : List (S23)) : Option (Bool) := if (l0.length : Int) ≤ 20 then ((laws_codSpanOf.f k l0).bind fun t108 => ((spec_CodSpansAre.f k t108).bind fun t111 => (some t111))) else (some false)
theorem laws_codSpanFew.mono : ∀ a0 k, LeO (laws_codSpanFew.f k a0) (laws_codSpanFew.f (k + 1) a0) := by
  intro a0 k
  unfold laws_codSpanFew.f
  repeat' first
      | (with_reducible exact laws_codSpanOf.mono _ _)
      | (with_reducible exact spec_CodSpansAre.mono _ _)
      | (with_reducible exact LeO.refl _)
      | (with_reducible exact LeO.none _)
      | (with_reducible refine LeO.ite ?_ ?_)
      | (with_reducible refine LeO.bind ?_ (fun _ => ?_))
      | exact laws_codSpanOf.mono _ _
      | exact spec_CodSpansAre.mono _ _
      | exact LeO.none _
      | refine LeO.ite ?_ ?_
      | refine LeO.bind ?_ (fun _ => ?_)
set_option maxHeartbeats 8000000 in
set_option maxRecDepth 100000 in
theorem laws_codSpanFew.calls (k : Nat) (A0 : Option Addr) (c0 : Nat) (l0 : List (S23)) (r : Bool) (w : World) (hr0 : Kd.C k23 w A0 l0.length l0) (hc0 : l0.length ≤ c0) (h : laws_codSpanFew.f k l0 = some r) :
    Calls Tryz.prog 10 #[.slice A0 l0.length c0] w fun e w' => e = .returned (.bool r) ∧ Below w.heap.size w w' := by
  have HR0 := Aside0.mk hr0
  have HC0 := Aside0.mk hc0
  clear hr0 hc0
  have HB := Aside0.mk (Below.refl w.heap.size w)
  have H : (if (l0.length : Int) ≤ 20 then ((laws_codSpanOf.f k l0).bind fun t108 => ((spec_CodSpansAre.f k t108).bind fun t111 => (some t111))) else (some false)) = some r := h
  clear h
  by_cases c2 : (l0.length : Int) ≤ 20
  · rw [if_pos c2] at H
    have c2b0 : decide ((l0.length : Int) ≤ 20) = true := decide_eq_true c2
    have c2b1 : decide (l0.length ≤ 20) = true := decide_eq_true (by omega)
    clear c2
    replace H := Option.bind_eq_some_iff.mp H
    obtain ⟨t108, A30, H⟩ := H
    replace H : ((spec_CodSpansAre.f k t108).bind fun t111 => (some t111)) = some r := H
    have A3 := Aside0.mk A30
    clear A30
    replace H := Option.bind_eq_some_iff.mp H
    obtain ⟨t111, A40, H⟩ := H
    replace H : (some t111) = some r := H
    have A4 := Aside0.mk A40
    clear A40
    obtain rfl := Option.some.inj H
    go_enter Tryz.func10, Tryz.ntmps10
    go_wp2_with (first | (go_at_call 15; (with_reducible refine (laws_codSpanOf.calls k _ _ l0 t108 _ ?side1 ?side2 A3.out).mono ?_); (case side1 => repeat (first | exact HR0.out | (with_reducible refine Kd.C_alloc ?_ _) | (with_reducible refine Kd.C_drewN ?_ _) | (with_reducible refine Kd.C_drew ?_))); (case side2 => exact HC0.out); rintro e w5 ⟨v109, rfl, ho0, hb⟩; have n0_ := Aside0.mk (Kd.R_lower ho0 (below_size (by repeat (first | (with_reducible first | exact HB.out | apply below_alloc | apply pw_below_drewN | apply below_drew1) | exact HB.out)))); have n1_ := Aside0.mk (below_step (by repeat (first | (with_reducible first | exact HB.out | apply below_alloc | apply pw_below_drewN | apply below_drew1) | exact HB.out)) hb); clear HB; have HO110 := n0_; have HB := n1_; clear n0_ n1_; (try clear hb); (try clear hb2); (try clear hk); (try clear hi); (try clear ho0); obtain ⟨Ao6, co6, eo6⟩ := Kd.R_slice HO110.out; subst eo6) | (go_at_call 33; (with_reducible refine (spec_CodSpansAre.calls k _ _ t108 t111 _ ?side1 ?side2 A4.out).mono ?_); (case side1 => repeat (first | exact (Kd.R_reads' HO110.out).2.2 | (with_reducible refine Kd.C_alloc ?_ _) | (with_reducible refine Kd.C_drewN ?_ _) | (with_reducible refine Kd.C_drew ?_))); (case side2 => exact (Kd.R_reads' HO110.out).2.1); rintro e w7 ⟨rfl, hb⟩; have n0_ := Aside0.mk (Kd.R_below (by (with_reducible repeat (first | apply Kd.R_alloc | apply Kd.R_drewN | apply Kd.R_drew)); exact HO110.out) hb); have n1_ := Aside0.mk (below_step (by repeat (first | (with_reducible first | exact HB.out | apply below_alloc | apply pw_below_drewN | apply below_drew1) | exact HB.out)) hb); clear HO110; clear HB; have HO110 := n0_; have HB := n1_; clear n0_ n1_; (try clear hb); (try clear hb2); (try clear hk); (try clear hi)))
    go_ret
    exact ⟨by first | rfl | (simp [errW_none, errW_some] <;> rfl) | (simp [*, errW_none, errW_some] <;> rfl), by repeat (first | (with_reducible first | exact HB.out | apply below_alloc | apply pw_below_drewN | apply below_drew1) | exact HB.out)⟩
  · rw [if_neg c2] at H
    have c2b0 : decide ((l0.length : Int) ≤ 20) = false := decide_eq_false c2
    have c2b1 : decide (l0.length ≤ 20) = false := decide_eq_false (by omega)
    clear c2
    obtain rfl := Option.some.inj H
    go_enter Tryz.func10, Tryz.ntmps10
    go_wp2
    go_ret
    exact ⟨by first | rfl | (simp [errW_none, errW_some] <;> rfl) | (simp [*, errW_none, errW_some] <;> rfl), by repeat (first | (with_reducible first | exact HB.out | apply below_alloc | apply pw_below_drewN | apply below_drew1) | exact HB.out)⟩
def impl_intervals.l0 : Nat → Int → List (S23) → Int → Int → Option (Bool)
  | 0, _, _, _, _ => none
  | k + 1, x0, x7, x8, x9 => if x9 < x8 then (if 0 ≤ x9 then (if x9 < (x7.length : Int) then (if x0 = 1 then (if (rd_T23 x7 x9).f0 = true then (some false) else (impl_intervals.l0 k x0 x7 x8 (wrap64 (x9 + 1)))) else (impl_intervals.l0 k x0 x7 x8 (wrap64 (x9 + 1)))) else (none)) else (none)) else (some true)
def impl_intervals.f (k : Nat) (a0 : Int) (l1 : List (S23)) : Option (Bool) := impl_intervals.l0 k a0 l1 (l1.length : Int) 0
theorem impl_intervals.mono_l : ∀ k, (∀ y0 y1 y2 y3, LeO (impl_intervals.l0 k y0 y1 y2 y3) (impl_intervals.l0 (k + 1) y0 y1 y2 y3))
  | 0 => fun _ _ _ _ r h => by simp [impl_intervals.l0] at h
  | k + 1 => by
    have ih0 := impl_intervals.mono_l k
    · intro y0 y1 y2 y3
      unfold impl_intervals.l0
      repeat' first
      | (with_reducible exact ih0 _ _ _ _)
      | (with_reducible exact LeO.refl _)
      | (with_reducible exact LeO.none _)
      | (with_reducible refine LeO.ite ?_ ?_)
      | (with_reducible refine LeO.bind ?_ (fun _ => ?_))
      | exact ih0 _ _ _ _
      | exact LeO.none _
      | refine LeO.ite ?_ ?_
      | refine LeO.bind ?_ (fun _ => ?_)
theorem impl_intervals.mono : ∀ a0 a1 k, LeO (impl_intervals.f k a0 a1) (impl_intervals.f (k + 1) a0 a1) := by
  intro a0 a1 k
  have ih0 := impl_intervals.mono_l k
  unfold impl_intervals.f
  repeat' first
      | (with_reducible exact ih0 _ _ _ _)
      | (with_reducible exact LeO.refl _)
      | (with_reducible exact LeO.none _)
      | (with_reducible refine LeO.ite ?_ ?_)
      | (with_reducible refine LeO.bind ?_ (fun _ => ?_))
      | exact ih0 _ _ _ _
      | exact LeO.none _
      | refine LeO.ite ?_ ?_
      | refine LeO.bind ?_ (fun _ => ?_)
set_option maxHeartbeats 8000000 in
set_option maxRecDepth 100000 in
theorem impl_intervals.calls (k : Nat) (a0 : Int) (A1 : Option Addr) (c1 : Nat) (l1 : List (S23)) (r : Bool) (w : World) (hr1 : Kd.C k23 w A1 l1.length l1) (hc1 : l1.length ≤ c1) (h : impl_intervals.f k a0 l1 = some r) :
    Calls Tryz.prog 36 #[.int .i64 a0, .slice A1 l1.length c1] w fun e w' => e = .returned (.bool r) ∧ Below w.heap.size w w' := by
  have hu23 := Tryz.underlying23
  have HR1 := Aside0.mk hr1
  have HC1 := Aside0.mk hc1
  clear hr1 hc1
  have HB := Aside0.mk (Below.refl w.heap.size w)
  have H : (impl_intervals.l0 k a0 l1 (l1.length : Int) 0) = some r := h
  clear h
  have H' := Aside0.mk H
  clear H
  go_enter Tryz.func36, Tryz.ntmps36
  go_wp2
  go_loopg [9] k (fun kq v9 w' => ∃ (x9_1 : Int), v9 = .int .i64 x9_1 ∧ Aside0 (impl_intervals.l0 kq a0 l1 (l1.length : Int) x9_1 = some r) ∧ Aside0 (kq ≤ k) ∧ Aside0 (Below w.heap.size w w'))
  case atStart => exact ⟨(0), (by first | rfl | (simp; done) | (simp [*]; done)), H', ⟨Nat.le_refl _⟩, ⟨by repeat (first | (with_reducible first | exact HB.out | apply below_alloc | apply pw_below_drewN | apply below_drew1) | exact HB.out)⟩⟩
  case round =>
    clear H'
    try clear c1
    try clear p2
    obtain ⟨x9_1, rfl, HA, HK1, HB⟩ := hrel
    cases gk with
    | zero => exact absurd HA.out (by simp [impl_intervals.l0])
    | succ k1 =>
      have H := HA.out
      clear HA
      simp only [impl_intervals.l0] at H
      by_cases c3 : x9_1 < (l1.length : Int)
      · rw [if_pos c3] at H
        have c3b0 : decide (x9_1 < (l1.length : Int)) = true := decide_eq_true c3
        clear c3
        by_cases c4 : 0 ≤ x9_1
        · rw [if_pos c4] at H
          have c4b0 : decide (0 ≤ x9_1) = true := decide_eq_true c4
          clear c4
          by_cases c5 : x9_1 < (l1.length : Int)
          · rw [if_pos c5] at H
            have c5b0 : decide (x9_1 < (l1.length : Int)) = true := decide_eq_true c5
            clear c5
            by_cases c6 : a0 = 1
            · rw [if_pos c6] at H
              have c6b0 : (a0 == 1) = true := beq_iff_eq.mpr c6
              have c6b1 : (a0 != 1) = false := bne_eq_false_iff_eq.mpr c6
              clear c6
              obtain ⟨bq7, hbq7⟩ : ∃ b_ : Bool, b_ = ((rd_T23 l1 x9_1).f0) := ⟨_, rfl⟩
              replace H : (if bq7 = true then (some false) else (impl_intervals.l0 k1 a0 l1 (l1.length : Int) (wrap64 (x9_1 + 1)))) = some r := by rw [← hbq7] at H; exact H
              have Nbq7 := Aside0.mk hbq7
              clear hbq7
              by_cases c8 : bq7 = true
              · subst c8
                have H1 : (some false) = some r := by rw [if_pos rfl] at H; exact H
                clear H
                have H := H1
                clear H1
                obtain rfl := Option.some.inj H
                have p130 : 0 ≤ (x9_1 : Int) := of_decide_eq_true (by first | (with_reducible assumption) | assumption)
                have q130 : x9_1 < (l1.length : Int) := of_decide_eq_true (by first | (with_reducible assumption) | assumption)
                obtain ⟨ad130, e130, hx130_0, hx130_1, hx130_2⟩ := at_T23 HR1.out x9_1 p130 q130
                (try rw [← Nbq7.out] at hx130_0)
                cases e130
                replace hx130_0 := (HB.out.cell (World.block_lt_of_cell? w _ hx130_0)).trans hx130_0
                replace hx130_1 := (HB.out.cell (World.block_lt_of_cell? w _ hx130_1)).trans hx130_1
                replace hx130_2 := (HB.out.cell (World.block_lt_of_cell? w _ hx130_2)).trans hx130_2
                replace p130 := eq_true p130
                replace q130 := eq_true q130
                go_wp2_with (first | ((with_reducible refine gate_dst (N := 6) rfl ?_); refine box_event ?hg (N := 6) ?hd (cs := #[.bool false, .int .i64 0, .int .i64 0]) (t := 23) ?hr ?_; (case hd => rfl); (case hg => rfl); (case hr => first | (go_simp; done) | (go_simp; rfl)); intro gb131 hg w9 hbox hb; have n0_ := Aside0.mk (below_step (by repeat (first | (with_reducible first | exact HB.out | apply below_alloc | apply pw_below_drewN | apply below_drew1) | exact HB.out)) hb); have n1_ := Aside0.mk (hbox); have n2_ := Aside0.mk ((by rw [hg]; exact (below_size (by repeat (first | (with_reducible first | exact HB.out | apply below_alloc | apply pw_below_drewN | apply below_drew1) | exact HB.out))) : w.heap.size ≤ gb131)); have n3_ := Aside0.mk ((by rw [hg]; exact (below_size (by repeat (first | (with_reducible first | exact HB.out | apply below_alloc | apply pw_below_drewN | apply below_drew1) | exact HB.out))) : w.heap.size ≤ gb131)); clear HB; have HB := n0_; have BK131 := n1_; have GW131 := n2_; have GE131 := n3_; clear n0_ n1_ n2_ n3_; clear hb hbox hg; have hcz10_0 : w9.cell? ⟨gb131, 0, none⟩ = some (.bool false) := (blk_cell BK131.out 0).trans rfl; have hcz10_1 : w9.cell? ⟨gb131, 1, none⟩ = some (.int .i64 0) := (blk_cell BK131.out 1).trans rfl; have hcz10_2 : w9.cell? ⟨gb131, 2, none⟩ = some (.int .i64 0) := (blk_cell BK131.out 2).trans rfl; have hfz10_0 := blk_frozen BK131.out 0; have hfz10_1 := blk_frozen BK131.out 1; have hfz10_2 := blk_frozen BK131.out 2))
                go_ret
                exact ⟨by first | rfl | (simp [errW_none, errW_some] <;> rfl) | (simp [*, errW_none, errW_some] <;> rfl), by repeat (first | (with_reducible first | exact HB.out | apply below_alloc | apply pw_below_drewN | apply below_drew1 | refine below_set ?_ GE131.out) | exact HB.out)⟩
              · replace c8 := Bool.eq_false_iff.mpr c8
                subst c8
                have H1 : (impl_intervals.l0 k1 a0 l1 (l1.length : Int) (wrap64 (x9_1 + 1))) = some r := by rw [if_neg (show ¬ (false = true) by decide)] at H; exact H
                clear H
                have H := H1
                clear H1
                have H' := Aside0.mk H
                clear H
                have p130 : 0 ≤ (x9_1 : Int) := of_decide_eq_true (by first | (with_reducible assumption) | assumption)
                have q130 : x9_1 < (l1.length : Int) := of_decide_eq_true (by first | (with_reducible assumption) | assumption)
                obtain ⟨ad130, e130, hx130_0, hx130_1, hx130_2⟩ := at_T23 HR1.out x9_1 p130 q130
                (try rw [← Nbq7.out] at hx130_0)
                cases e130
                replace hx130_0 := (HB.out.cell (World.block_lt_of_cell? w _ hx130_0)).trans hx130_0
                replace hx130_1 := (HB.out.cell (World.block_lt_of_cell? w _ hx130_1)).trans hx130_1
                replace hx130_2 := (HB.out.cell (World.block_lt_of_cell? w _ hx130_2)).trans hx130_2
                replace p130 := eq_true p130
                replace q130 := eq_true q130
                go_wp2_with (first | ((with_reducible refine gate_dst (N := 6) rfl ?_); refine box_event ?hg (N := 6) ?hd (cs := #[.bool false, .int .i64 0, .int .i64 0]) (t := 23) ?hr ?_; (case hd => rfl); (case hg => rfl); (case hr => first | (go_simp; done) | (go_simp; rfl)); intro gb131 hg w11 hbox hb; have n0_ := Aside0.mk (below_step (by repeat (first | (with_reducible first | exact HB.out | apply below_alloc | apply pw_below_drewN | apply below_drew1) | exact HB.out)) hb); have n1_ := Aside0.mk (hbox); have n2_ := Aside0.mk ((by rw [hg]; exact (below_size (by repeat (first | (with_reducible first | exact HB.out | apply below_alloc | apply pw_below_drewN | apply below_drew1) | exact HB.out))) : w.heap.size ≤ gb131)); have n3_ := Aside0.mk ((by rw [hg]; exact (below_size (by repeat (first | (with_reducible first | exact HB.out | apply below_alloc | apply pw_below_drewN | apply below_drew1) | exact HB.out))) : w.heap.size ≤ gb131)); clear HB; have HB := n0_; have BK131 := n1_; have GW131 := n2_; have GE131 := n3_; clear n0_ n1_ n2_ n3_; clear hb hbox hg; have hcz12_0 : w11.cell? ⟨gb131, 0, none⟩ = some (.bool false) := (blk_cell BK131.out 0).trans rfl; have hcz12_1 : w11.cell? ⟨gb131, 1, none⟩ = some (.int .i64 0) := (blk_cell BK131.out 1).trans rfl; have hcz12_2 : w11.cell? ⟨gb131, 2, none⟩ = some (.int .i64 0) := (blk_cell BK131.out 2).trans rfl; have hfz12_0 := blk_frozen BK131.out 0; have hfz12_1 := blk_frozen BK131.out 1; have hfz12_2 := blk_frozen BK131.out 2))
                go_roundg k1
                case measure => have := HK1.out; omega
                case rel => exact ⟨(wrap64 (x9_1 + 1)), (by first | rfl | (simp; done) | (simp [*]; done)), H', ⟨by have := HK1.out; omega⟩, ⟨by repeat (first | (with_reducible first | exact HB.out | apply below_alloc | apply pw_below_drewN | apply below_drew1 | refine below_set ?_ GE131.out) | exact HB.out)⟩⟩
            · rw [if_neg c6] at H
              have c6b0 : (a0 == 1) = false := beq_eq_false_iff_ne.mpr c6
              have c6b1 : (a0 != 1) = true := bne_iff_ne.mpr c6
              have H' := Aside0.mk H
              clear H
              have p130 : 0 ≤ (x9_1 : Int) := of_decide_eq_true (by first | (with_reducible assumption) | assumption)
              have q130 : x9_1 < (l1.length : Int) := of_decide_eq_true (by first | (with_reducible assumption) | assumption)
              obtain ⟨ad130, e130, hx130_0, hx130_1, hx130_2⟩ := at_T23 HR1.out x9_1 p130 q130
              cases e130
              replace hx130_0 := (HB.out.cell (World.block_lt_of_cell? w _ hx130_0)).trans hx130_0
              replace hx130_1 := (HB.out.cell (World.block_lt_of_cell? w _ hx130_1)).trans hx130_1
              replace hx130_2 := (HB.out.cell (World.block_lt_of_cell? w _ hx130_2)).trans hx130_2
              replace p130 := eq_true p130
              replace q130 := eq_true q130
              go_wp2_with (first | ((with_reducible refine gate_dst (N := 6) rfl ?_); refine box_event ?hg (N := 6) ?hd (cs := #[.bool false, .int .i64 0, .int .i64 0]) (t := 23) ?hr ?_; (case hd => rfl); (case hg => rfl); (case hr => first | (go_simp; done) | (go_simp; rfl)); intro gb131 hg w13 hbox hb; have n0_ := Aside0.mk (below_step (by repeat (first | (with_reducible first | exact HB.out | apply below_alloc | apply pw_below_drewN | apply below_drew1) | exact HB.out)) hb); have n1_ := Aside0.mk (hbox); have n2_ := Aside0.mk ((by rw [hg]; exact (below_size (by repeat (first | (with_reducible first | exact HB.out | apply below_alloc | apply pw_below_drewN | apply below_drew1) | exact HB.out))) : w.heap.size ≤ gb131)); have n3_ := Aside0.mk ((by rw [hg]; exact (below_size (by repeat (first | (with_reducible first | exact HB.out | apply below_alloc | apply pw_below_drewN | apply below_drew1) | exact HB.out))) : w.heap.size ≤ gb131)); clear HB; have HB := n0_; have BK131 := n1_; have GW131 := n2_; have GE131 := n3_; clear n0_ n1_ n2_ n3_; clear hb hbox hg; have hcz14_0 : w13.cell? ⟨gb131, 0, none⟩ = some (.bool false) := (blk_cell BK131.out 0).trans rfl; have hcz14_1 : w13.cell? ⟨gb131, 1, none⟩ = some (.int .i64 0) := (blk_cell BK131.out 1).trans rfl; have hcz14_2 : w13.cell? ⟨gb131, 2, none⟩ = some (.int .i64 0) := (blk_cell BK131.out 2).trans rfl; have hfz14_0 := blk_frozen BK131.out 0; have hfz14_1 := blk_frozen BK131.out 1; have hfz14_2 := blk_frozen BK131.out 2))
              go_roundg k1
              case measure => have := HK1.out; omega
              case rel => exact ⟨(wrap64 (x9_1 + 1)), (by first | rfl | (simp; done) | (simp [*]; done)), H', ⟨by have := HK1.out; omega⟩, ⟨by repeat (first | (with_reducible first | exact HB.out | apply below_alloc | apply pw_below_drewN | apply below_drew1 | refine below_set ?_ GE131.out) | exact HB.out)⟩⟩
          · rw [if_neg c5] at H
            exact absurd H (by simp)
        · rw [if_neg c4] at H
          exact absurd H (by simp)
      · rw [if_neg c3] at H
        have c3b0 : decide (x9_1 < (l1.length : Int)) = false := decide_eq_false c3
        clear c3
        obtain rfl := Option.some.inj H
        go_wp2
        go_ret
        exact ⟨by first | rfl | (simp [errW_none, errW_some] <;> rfl) | (simp [*, errW_none, errW_some] <;> rfl), by repeat (first | (with_reducible first | exact HB.out | apply below_alloc | apply pw_below_drewN | apply below_drew1) | exact HB.out)⟩
end Go.Proofs.YtgdbeiadlgkedaaGreatDoor.PFnWindowOne
