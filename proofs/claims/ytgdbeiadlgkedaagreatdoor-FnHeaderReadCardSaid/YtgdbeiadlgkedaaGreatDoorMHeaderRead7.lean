/- Contracts and plain laws, several texts in one. -/
import Derived.Test.YtgdbeiadlgkedaaGreatDoorMHeaderRead1
import Derived.Test.YtgdbeiadlgkedaaGreatDoorMHeaderRead2
import Derived.Test.YtgdbeiadlgkedaaGreatDoorMHeaderRead3
import Derived.Test.YtgdbeiadlgkedaaGreatDoorMHeaderRead4
import Derived.Test.YtgdbeiadlgkedaaGreatDoorMHeaderRead5
import Derived.Test.YtgdbeiadlgkedaaGreatDoorMHeaderRead6
import Derived.Test.YtgdbeiadlgkedaaGreatDoorProg
import Derived.Below
import Derived.Deep.Draws
import Derived.Deep.AppendLies
import Derived.Maps.AppendAt
import Derived.OwnWalk
import Derived.Laws.BytesArg
import Derived.Laws.MakeOwn
import Derived.Laws.OwnMore
import Derived.Deep.OwnRows
import Derived.Tactics
import Derived.Lib.ConvBytes
import Derived.Laws.Slices
import Derived.WalkKit
import Derived.KernelRfl
import Derived.RowKit3
import Derived.Deep.LoopGhost
import Derived.Deep.QuietTactic
import Derived.BigQuiet
import Derived.WideLaws
import Derived.Deep.DeepCutAuto
import Derived.Deep.CutBlock
import Derived.Deep.RegionHeld3
import Derived.Laws.Rows
import Derived.Lib.AppendStr
import Derived.ArgAppend
import Derived.Laws.IdiomCopy
import Derived.OrdersHeld
import Derived.Laws.BitsLemmas
import Derived.RowKit
import Derived.Lib.Varint
namespace Go.Proofs.YtgdbeiadlgkedaaGreatDoor.PFnWindowOne
open Go.RowKit Go.Proofs.YtgdbeiadlgkedaaGreatDoorW.PrintWords Go.Proofs.YtgdbeiadlgkedaaGreatDoorW.PrintLast Go.Proofs.YtgdbeiadlgkedaaGreatDoorW.PrintMore
attribute [local go_sem] max2_int min2_int max_two min_two max_three min_three max_four min_four
set_option linter.unusedVariables false
set_option linter.unusedSimpArgs false
def errW : Option Int → Value
  | none => .nilIface
  | some c => .iface 0 (.int .i64 c)
theorem errW_none : errW none = .nilIface := rfl
theorem errW_some (c : Int) : errW (some c) = .iface 0 (.int .i64 c) := rfl
theorem info32 : (Tryz.prog.info? 32).map (fun i => (i.zero, i.size, i.bytes)) = some (some (.agg #[(.bool false), (.int .i64 0), (.int .i64 0)]), 3, 24) := by kernel_rfl
structure S23 where
  f0 : Bool
  f1 : Int
  f2 : Int
def z23 : S23 := ⟨false, (0 : Int), (0 : Int)⟩
def k23 : Kd S23 := Kd.iso (Kd.pair Kd.bool (Kd.pair (Kd.int .i64) (Kd.int .i64))) (fun x : S23 => (x.f0, x.f1, x.f2))
theorem k23_open {w : World} {x : S23} {cs : List Value} (h : k23.K w x cs) : cs = [.bool x.f0, .int .i64 x.f1, .int .i64 x.f2] := by
  obtain ⟨_, _, rfl, rfl, ⟨_, _, rfl, rfl, rfl⟩⟩ := h
  exact rfl
theorem k23_mkM (w : World) (base : Nat) (ok : Nat → Prop) (x : S23)  : k23.M w base ok x [.bool x.f0, .int .i64 x.f1, .int .i64 x.f2] := ⟨[.bool x.f0], [.int .i64 x.f1, .int .i64 x.f2], rfl, rfl, ⟨[.int .i64 x.f1], [.int .i64 x.f2], rfl, rfl, rfl⟩⟩
def rd_T23 (xs : List S23) (i : Int) : S23 := xs.getD i.toNat z23
theorem at_T23 {w : World} {A : Option Addr} {n : Nat} {xs : List S23} (h : Kd.C k23 w A n xs) (i : Int) (h0 : 0 ≤ i) (h1 : i < n) : ∃ ad , A = some ad ∧ w.cell? (ad.add (i.toNat * 3)) = some (.bool (rd_T23 xs i).f0) ∧ w.cell? ⟨(ad.add (i.toNat * 3)).block, (ad.add (i.toNat * 3)).off + 1, none⟩ = some (.int .i64 (rd_T23 xs i).f1) ∧ w.cell? ⟨(ad.add (i.toNat * 3)).block, (ad.add (i.toNat * 3)).off + 2, none⟩ = some (.int .i64 (rd_T23 xs i).f2) := by
  obtain ⟨ad, c, e, _, hK, hc0⟩ := Kd.C_get h z23 i h0 h1
  have hc : ∀ j u, c[j]? = some u → w.cell? (ad.add (i.toNat * 3 + j)) = some u := hc0
  obtain rfl := k23_open hK
  exact ⟨ad, e, hc 0 _ rfl, by rw [← add_field _ _ 1 (by omega)]; exact hc 1 _ rfl, by rw [← add_field _ _ 2 (by omega)]; exact hc 2 _ rfl⟩
structure S32 where
  f0 : Bool
  f1 : Int
  f2 : Int
def z32 : S32 := ⟨false, (0 : Int), (0 : Int)⟩
def k32 : Kd S32 := Kd.iso (Kd.pair Kd.bool (Kd.pair (Kd.int .i64) (Kd.int .i64))) (fun x : S32 => (x.f0, x.f1, x.f2))
theorem k32_open {w : World} {x : S32} {cs : List Value} (h : k32.K w x cs) : cs = [.bool x.f0, .int .i64 x.f1, .int .i64 x.f2] := by
  obtain ⟨_, _, rfl, rfl, ⟨_, _, rfl, rfl, rfl⟩⟩ := h
  exact rfl
theorem k32_mk (w : World) (x : S32)  : k32.K w x [.bool x.f0, .int .i64 x.f1, .int .i64 x.f2] := ⟨[.bool x.f0], [.int .i64 x.f1, .int .i64 x.f2], rfl, rfl, ⟨[.int .i64 x.f1], [.int .i64 x.f2], rfl, rfl, rfl⟩⟩
theorem k32_mkM (w : World) (base : Nat) (ok : Nat → Prop) (x : S32)  : k32.M w base ok x [.bool x.f0, .int .i64 x.f1, .int .i64 x.f2] := ⟨[.bool x.f0], [.int .i64 x.f1, .int .i64 x.f2], rfl, rfl, ⟨[.int .i64 x.f1], [.int .i64 x.f2], rfl, rfl, rfl⟩⟩
def rd_T32 (xs : List S32) (i : Int) : S32 := xs.getD i.toNat z32
theorem at_T32 {w : World} {A : Option Addr} {n : Nat} {xs : List S32} (h : Kd.C k32 w A n xs) (i : Int) (h0 : 0 ≤ i) (h1 : i < n) : ∃ ad , A = some ad ∧ w.cell? (ad.add (i.toNat * 3)) = some (.bool (rd_T32 xs i).f0) ∧ w.cell? ⟨(ad.add (i.toNat * 3)).block, (ad.add (i.toNat * 3)).off + 1, none⟩ = some (.int .i64 (rd_T32 xs i).f1) ∧ w.cell? ⟨(ad.add (i.toNat * 3)).block, (ad.add (i.toNat * 3)).off + 2, none⟩ = some (.int .i64 (rd_T32 xs i).f2) := by
  obtain ⟨ad, c, e, _, hK, hc0⟩ := Kd.C_get h z32 i h0 h1
  have hc : ∀ j u, c[j]? = some u → w.cell? (ad.add (i.toNat * 3 + j)) = some u := hc0
  obtain rfl := k32_open hK
  exact ⟨ad, e, hc 0 _ rfl, by rw [← add_field _ _ 1 (by omega)]; exact hc 1 _ rfl, by rw [← add_field _ _ 2 (by omega)]; exact hc 2 _ rfl⟩
end Go.Proofs.YtgdbeiadlgkedaaGreatDoor.PFnWindowOne
set_option linter.unusedVariables false
set_option linter.unusedSimpArgs false
namespace Go.Proofs.YtgdbeiadlgkedaaGreatDoor.PFnWindowOne
open Go.RowKit Go.Proofs.YtgdbeiadlgkedaaGreatDoorW.PrintWords Go.Proofs.YtgdbeiadlgkedaaGreatDoorW.PrintLast Go.Proofs.YtgdbeiadlgkedaaGreatDoorW.PrintMore
def laws_codSpanOf.l0 : Nat → List (S32) → List (S23) → Int → Int → Option ((List (S32)))
  | 0, _, _, _, _ => none
  | k + 1, x3, x6, x7, x8 => if x8 < x7 then (if 0 ≤ x8 then (if x8 < (x6.length : Int) then (if x3.length < 5864062014805 then (laws_codSpanOf.l0 k (x3 ++ [(⟨(rd_T23 x6 x8).f0, (rd_T23 x6 x8).f1, (rd_T23 x6 x8).f2⟩ : S32)]) x6 x7 (wrap64 (x8 + 1))) else (none)) else (none)) else (none)) else (some x3)
def laws_codSpanOf.f (k : Nat) (l0 : List (S23)) : Option ((List (S32))) := laws_codSpanOf.l0 k ([] : List (S32)) l0 (l0.length : Int) 0
theorem laws_codSpanOf.mono_l : ∀ k, (∀ y0 y1 y2 y3, LeO (laws_codSpanOf.l0 k y0 y1 y2 y3) (laws_codSpanOf.l0 (k + 1) y0 y1 y2 y3))
  | 0 => fun _ _ _ _ r h => by simp [laws_codSpanOf.l0] at h
  | k + 1 => by
    have ih0 := laws_codSpanOf.mono_l k
    · intro y0 y1 y2 y3
      unfold laws_codSpanOf.l0
      repeat' first
      | (with_reducible exact ih0 _ _ _ _)
      | (with_reducible exact LeO.refl _)
      | (with_reducible exact LeO.none _)
      | (with_reducible refine LeO.ite ?_ ?_)
      | (with_reducible refine LeO.bind ?_ (fun _ => ?_))
      | exact ih0 _ _ _ _
      | exact LeO.none _
      | refine LeO.ite ?_ ?_
      | refine LeO.bind ?_ (fun _ => ?_)
theorem laws_codSpanOf.mono : ∀ a0 k, LeO (laws_codSpanOf.f k a0) (laws_codSpanOf.f (k + 1) a0) := by
  intro a0 k
  have ih0 := laws_codSpanOf.mono_l k
  unfold laws_codSpanOf.f
  repeat' first
      | (with_reducible exact ih0 _ _ _ _)
      | (with_reducible exact LeO.refl _)
      | (with_reducible exact LeO.none _)
      | (with_reducible refine LeO.ite ?_ ?_)
      | (with_reducible refine LeO.bind ?_ (fun _ => ?_))
      | exact ih0 _ _ _ _
      | exact LeO.none _
      | refine LeO.ite ?_ ?_
      | refine LeO.bind ?_ (fun _ => ?_)
set_option maxHeartbeats 8000000 in
set_option maxRecDepth 100000 in
theorem laws_codSpanOf.calls (k : Nat) (A0 : Option Addr) (c0 : Nat) (l0 : List (S23)) (r : List (S32)) (w : World) (hr0 : Kd.C k23 w A0 l0.length l0) (hc0 : l0.length ≤ c0) (h : laws_codSpanOf.f k l0 = some r) :
    Calls Tryz.prog 15 #[.slice A0 l0.length c0] w fun e w' => ∃ v0_ : Value, e = .returned (v0_) ∧ Kd.R k32 32 w' w.heap.size (fun _ => True) v0_ r ∧ Below w.heap.size w w' := by
  have hu23 := Tryz.underlying23
  have hu32 := Tryz.underlying32
  have HR0 := Aside0.mk hr0
  have HC0 := Aside0.mk hc0
  clear hr0 hc0
  have HB := Aside0.mk (Below.refl w.heap.size w)
  have H : (laws_codSpanOf.l0 k ([] : List (S32)) l0 (l0.length : Int) 0) = some r := h
  clear h
  have H' := Aside0.mk H
  clear H
  go_enter Tryz.func15, Tryz.ntmps15
  go_wp2
  go_loopg [3, 8] k (fun kq v3 v8 w' => ∃ (x3_1 : List (S32)) (x8_1 : Int), v8 = .int .i64 x8_1 ∧ Aside0 (laws_codSpanOf.l0 kq x3_1 l0 (l0.length : Int) x8_1 = some r) ∧ Aside0 (kq ≤ k) ∧ Aside0 (Kd.R k32 32 w' w.heap.size (fun _ => True) v3 x3_1) ∧ Aside0 (Below w.heap.size w w'))
  case atStart => exact ⟨(([] : List (S32))), (0), (by first | rfl | (simp; done) | (simp [*]; done)), H', ⟨Nat.le_refl _⟩, ⟨by first | exact Kd.R_nil _ _ _ _ _ | exact Kd.N_nil _ _ _ _ _ | exact Kd.V_nil _ _ _ _ _ | exact Kd.Q_nil _ _ _ _ _ | exact Kd.S_nil _ _ _ _ _⟩, ⟨by repeat (first | (with_reducible first | exact HB.out | apply below_alloc | apply pw_below_drewN | apply below_drew1) | exact HB.out)⟩⟩
  case round =>
    clear H'
    try clear c1
    obtain ⟨x3_1, x8_1, rfl, HA, HK1, HO_3, HB⟩ := hrel
    cases gk with
    | zero => exact absurd HA.out (by simp [laws_codSpanOf.l0])
    | succ k1 =>
      have H := HA.out
      clear HA
      simp only [laws_codSpanOf.l0] at H
      by_cases c2 : x8_1 < (l0.length : Int)
      · rw [if_pos c2] at H
        have c2b0 : decide (x8_1 < (l0.length : Int)) = true := decide_eq_true c2
        clear c2
        by_cases c3 : 0 ≤ x8_1
        · rw [if_pos c3] at H
          have c3b0 : decide (0 ≤ x8_1) = true := decide_eq_true c3
          clear c3
          by_cases c4 : x8_1 < (l0.length : Int)
          · rw [if_pos c4] at H
            have c4b0 : decide (x8_1 < (l0.length : Int)) = true := decide_eq_true c4
            clear c4
            by_cases c5 : x3_1.length < 5864062014805
            · rw [if_pos c5] at H
              have LMc5 := Aside0.mk c5
              clear c5
              obtain ⟨y103, hy103⟩ : ∃ y_ : List (S32), y_ = (x3_1 ++ [(⟨(rd_T23 l0 x8_1).f0, (rd_T23 l0 x8_1).f1, (rd_T23 l0 x8_1).f2⟩ : S32)]) := ⟨_, rfl⟩
              replace H : (laws_codSpanOf.l0 k1 y103 l0 (l0.length : Int) (wrap64 (x8_1 + 1))) = some r := by first | (rw [hy103]; with_reducible exact H) | (have H2_ := (Option.bind_some _ _).symm.trans H; rw [hy103]; with_reducible exact H2_) | (have H2_ := (Option.bind_some _ _).symm.trans H; with_reducible exact H2_) | with_reducible exact H | (rw [hy103]; exact H) | exact H
              have Ny103 := Aside0.mk hy103
              clear hy103
              have H' := Aside0.mk H
              clear H
              have p101 : 0 ≤ (x8_1 : Int) := of_decide_eq_true (by first | (with_reducible assumption) | assumption)
              have q101 : x8_1 < (l0.length : Int) := of_decide_eq_true (by first | (with_reducible assumption) | assumption)
              obtain ⟨ad101, e101, hx101_0, hx101_1, hx101_2⟩ := at_T23 HR0.out x8_1 p101 q101
              cases e101
              replace hx101_0 := (HB.out.cell (World.block_lt_of_cell? w _ hx101_0)).trans hx101_0
              replace hx101_1 := (HB.out.cell (World.block_lt_of_cell? w _ hx101_1)).trans hx101_1
              replace hx101_2 := (HB.out.cell (World.block_lt_of_cell? w _ hx101_2)).trans hx101_2
              replace p101 := eq_true p101
              replace q101 := eq_true q101
              go_wp2_with (first | ((with_reducible refine gate_dst (N := 5) rfl ?_); refine box_event ?hg (N := 5) ?hd (cs := #[.bool false, .int .i64 0, .int .i64 0]) (t := 23) ?hr ?_; (case hd => rfl); (case hg => rfl); (case hr => first | (go_simp; done) | (go_simp; rfl)); intro gb102 hg w6 hbox hb; have n0_ := Aside0.mk (Kd.R_below (by (with_reducible repeat (first | apply Kd.R_alloc | apply Kd.R_drewN | apply Kd.R_drew)); exact HO_3.out) hb); have n1_ := Aside0.mk (below_step (by repeat (first | (with_reducible first | exact HB.out | apply below_alloc | apply pw_below_drewN | apply below_drew1) | exact HB.out)) hb); have n2_ := Aside0.mk (hbox); have n3_ := Aside0.mk ((by rw [hg]; exact (below_size (by repeat (first | (with_reducible first | exact HB.out | apply below_alloc | apply pw_below_drewN | apply below_drew1) | exact HB.out))) : w.heap.size ≤ gb102)); have n4_ := Aside0.mk ((by rw [hg]; exact (below_size (by repeat (first | (with_reducible first | exact HB.out | apply below_alloc | apply pw_below_drewN | apply below_drew1) | exact HB.out))) : w.heap.size ≤ gb102)); clear HO_3; clear HB; have HO_3 := n0_; have HB := n1_; have BK102 := n2_; have GW102 := n3_; have GE102 := n4_; clear n0_ n1_ n2_ n3_ n4_; clear hb hbox hg; have hcz7_0 : w6.cell? ⟨gb102, 0, none⟩ = some (.bool false) := (blk_cell BK102.out 0).trans rfl; have hcz7_1 : w6.cell? ⟨gb102, 1, none⟩ = some (.int .i64 0) := (blk_cell BK102.out 1).trans rfl; have hcz7_2 : w6.cell? ⟨gb102, 2, none⟩ = some (.int .i64 0) := (blk_cell BK102.out 2).trans rfl; have hfz7_0 := blk_frozen BK102.out 0; have hfz7_1 := blk_frozen BK102.out 1; have hfz7_2 := blk_frozen BK102.out 2) | ((with_reducible refine gate_builtin (b := .append) (xs := #[.tmp 12, .tmp 20]) rfl ?_); at_builtin; refine Kd.R_append k32 (w0 := w) w.heap.size rfl (.tmp 12) (.tmp 20) 33 32 (.agg #[(.bool false), (.int .i64 0), (.int .i64 0)]) 24 rfl Tryz.underlying33 info32 rfl (by decide) (by omega) u3 x3_1 (⟨(rd_T23 l0 x8_1).f0, (rd_T23 l0 x8_1).f1, (rd_T23 l0 x8_1).f2⟩ : S32) [.bool ((rd_T23 l0 x8_1).f0), .int .i64 ((rd_T23 l0 x8_1).f1), .int .i64 ((rd_T23 l0 x8_1).f2)] (fun _ => True) (fun _ => False) rfl (by first | (go_simp; done) | (go_simp; rfl)) ?aP (fun _ hk => hk.elim) ?aF ?aO ?aB ?aS ?aL ?_; (case aP => exact k32_mkM _ _ _ (⟨(rd_T23 l0 x8_1).f0, (rd_T23 l0 x8_1).f1, (rd_T23 l0 x8_1).f2⟩ : S32)); (case aB => exact (by repeat (first | (with_reducible first | exact HB.out | apply below_alloc | apply pw_below_drewN | apply below_drew1 | refine below_set ?_ GE102.out) | exact HB.out))); (case aF => exact (fun _ _ => trivial)); (case aO => exact (by (with_reducible repeat (first | apply Kd.R_alloc | apply Kd.R_drewN | apply Kd.R_drew)); exact Kd.R_mono (Kd.R_far (p := ⟨gb102, 2, none⟩) (Kd.R_far (p := ⟨gb102, 1, none⟩) (Kd.R_far (p := ⟨gb102, 0, none⟩) (Kd.R_types HO_3.out BK102.out (by decide)) (fun _ hk => hk.2) (.bool ((rd_T23 l0 x8_1).f0))) (fun _ hk => hk.2) (.int .i64 ((rd_T23 l0 x8_1).f1))) (fun _ hk => hk.2) (.int .i64 ((rd_T23 l0 x8_1).f2))) (fun _ hk => trivial))); (case aS => exact (below_size (by repeat (first | (with_reducible first | exact HB.out | apply below_alloc | apply pw_below_drewN | apply below_drew1 | refine below_set ?_ GE102.out) | exact HB.out)))); (case aL => have := LMc5.out; omega); intro v104 w8 ho hb hg hat; rw [← Ny103.out] at ho; have n0_ := Aside0.mk (blk_grown (g := gb102) (o := .cells #[.bool ((rd_T23 l0 x8_1).f0), .int .i64 ((rd_T23 l0 x8_1).f1), .int .i64 ((rd_T23 l0 x8_1).f2)] 23 (0, 0)) (by (with_reducible repeat (first | refine blk_drewN ?_ _ | refine blk_drew ?_ | refine blk_alloc ?_ _)); refine blk_put (cs := #[.bool ((rd_T23 l0 x8_1).f0), .int .i64 ((rd_T23 l0 x8_1).f1), .int .i64 0]) ?_ 2 _ rfl; (with_reducible repeat (first | refine blk_drewN ?_ _ | refine blk_drew ?_ | refine blk_alloc ?_ _)); refine blk_put (cs := #[.bool ((rd_T23 l0 x8_1).f0), .int .i64 0, .int .i64 0]) ?_ 1 _ rfl; (with_reducible repeat (first | refine blk_drewN ?_ _ | refine blk_drew ?_ | refine blk_alloc ?_ _)); refine blk_put (cs := #[.bool false, .int .i64 0, .int .i64 0]) ?_ 0 _ rfl; (with_reducible repeat (first | refine blk_drewN ?_ _ | refine blk_drew ?_ | refine blk_alloc ?_ _)); exact BK102.out) hg (Kd.R_ne HO_3.out BK102.out (by decide))); have n1_ := Aside0.mk (hb); have n2_ := Aside0.mk (ho); clear BK102; clear HB; clear HO_3; have BK102 := n0_; have HB := n1_; have HO105 := n2_; clear n0_ n1_ n2_; clear ho hb hg hat))
              go_roundg k1
              case measure => have := HK1.out; omega
              case rel => exact ⟨(y103), (wrap64 (x8_1 + 1)), (by first | rfl | (simp; done) | (simp [*]; done)), H', ⟨by have := HK1.out; omega⟩, ⟨by (with_reducible repeat (first | apply Kd.R_alloc | apply Kd.R_drewN | apply Kd.R_drew)); exact HO105.out⟩, ⟨by repeat (first | (with_reducible first | exact HB.out | apply below_alloc | apply pw_below_drewN | apply below_drew1 | refine below_set ?_ GE102.out) | exact HB.out)⟩⟩
            · rw [if_neg c5] at H
              exact absurd H (by simp)
          · rw [if_neg c4] at H
            exact absurd H (by simp)
        · rw [if_neg c3] at H
          exact absurd H (by simp)
      · rw [if_neg c2] at H
        have c2b0 : decide (x8_1 < (l0.length : Int)) = false := decide_eq_false c2
        clear c2
        obtain rfl := Option.some.inj H
        go_wp2
        go_ret
        exact ⟨_, by first | rfl | (simp [errW_none, errW_some] <;> rfl) | (simp [*, errW_none, errW_some] <;> rfl), by (with_reducible repeat (first | apply Kd.R_alloc | apply Kd.R_drewN | apply Kd.R_drew)); exact HO_3.out, by repeat (first | (with_reducible first | exact HB.out | apply below_alloc | apply pw_below_drewN | apply below_drew1) | exact HB.out)⟩
end Go.Proofs.YtgdbeiadlgkedaaGreatDoor.PFnWindowOne
set_option linter.unusedVariables false
set_option linter.unusedSimpArgs false
namespace Go.Proofs.YtgdbeiadlgkedaaGreatDoor
open Go.RowKit PFnWindowOne Go.Proofs.YtgdbeiadlgkedaaGreatDoorW.PrintWords Go.Proofs.YtgdbeiadlgkedaaGreatDoorW.PrintLast Go.Proofs.YtgdbeiadlgkedaaGreatDoorW.PrintMore
theorem str_ext0 {s : ByteArray} {l : List UInt8} (h : s.data.toList = l) : s = ⟨l.toArray⟩ := by
  cases s with
  | mk d => simp only at h; subst h; simp
theorem xor_sign (n : Int) (h0 : -9223372036854775808 ≤ n) (h1 : n ≤ 9223372036854775807) : Go.bits .xor .u64 (u64of n : Int) 9223372036854775808 = ((n + 9223372036854775808).toNat : Int) := by
  have hl := u64of_lt n
  have h := bits_xor_u64_nat (u64of n) 9223372036854775808 hl (by decide)
  have e : ((9223372036854775808 : Nat) : Int) = 9223372036854775808 := rfl
  rw [e] at h
  rw [h]
  have hm : (u64of n ^^^ 9223372036854775808) % 2 ^ 63 = u64of n % 2 ^ 63 := by rw [Nat.xor_mod_two_pow]; simp
  have hd : (u64of n ^^^ 9223372036854775808) / 2 ^ 63 = (u64of n / 2 ^ 63) ^^^ 1 := by rw [Nat.xor_div_two_pow]
  have e2 : (2 : Nat) ^ 63 = 9223372036854775808 := by decide
  rw [e2] at hm hd
  have hx : u64of n = (n % 18446744073709551616).toNat := rfl
  rcases (show u64of n / 9223372036854775808 = 0 ∨ u64of n / 9223372036854775808 = 1 by omega) with hq | hq
  · rw [hq] at hd
    have : (0 : Nat) ^^^ 1 = 1 := by decide
    rw [this] at hd
    omega
  · rw [hq] at hd
    have : (1 : Nat) ^^^ 1 = 0 := by decide
    rw [this] at hd
    omega
end Go.Proofs.YtgdbeiadlgkedaaGreatDoor
set_option linter.unusedVariables false
set_option linter.unusedSimpArgs false
namespace Go.Proofs.YtgdbeiadlgkedaaGreatDoor
open Go.RowKit PFnWindowsRead Go.Proofs.YtgdbeiadlgkedaaGreatDoorW.PrintWords Go.Proofs.YtgdbeiadlgkedaaGreatDoorW.PrintLast Go.Proofs.YtgdbeiadlgkedaaGreatDoorW.PrintMore
theorem get_at (s : ByteArray) (i : Nat) (c : UInt8) (r : List UInt8) (h : s.data.toList.drop i = c :: r) : ∀ hm : i < s.size, s[i]'hm = c := by
  intro hm
  have h1 : s.data.toList[i]? = some c := by
    have := congrArg (fun l => l[0]?) h
    simpa [List.getElem?_drop] using this
  obtain ⟨h3, h4⟩ := List.getElem?_eq_some_iff.1 h1
  rw [← h4]; rfl
def cvT (R : Option (Nat × Nat)) : Int × Int × Int := match R with
  | some (v, k) => ((v : Nat), (k : Nat), 0)
  | none => (0, 0, 1)
theorem bt_cons (s : ByteArray) (i : Nat) (c : UInt8) (r : List UInt8) (h : s.data.toList.drop i = c :: r) : bt s (i : Int) = (c.toNat : Int) ∧ i < s.size := by
  have hl : i < s.size := by
    have := congrArg List.length h
    simp only [List.length_drop, Array.length_toList, List.length_cons] at this
    show i < s.data.size
    omega
  refine ⟨?_, hl⟩
  unfold bt
  rw [dif_pos (by simpa using hl)]
  have := get_at s i c r h hl
  simp only [Int.toNat_natCast, this]
theorem cvr_j1 (s : ByteArray) (N : Nat) (hN : s.size = N) (hN32 : N ≤ 4294967296) (i z k : Nat) (c : UInt8) (rest : List UInt8) (hcr : s.data.toList.drop i = c :: rest) (hi : i ≤ 9) (hz : z < 2 ^ (7 * i)) (hb : ¬ (9 < i ∨ (i = 9 ∧ 1 < c.toNat)))
    (hk : ∀ V : Nat, ¬ c.toNat < 128 → i + 1 ≤ 9 → V < 2 ^ (7 * (i + 1)) → spec_CodVarRead.l0 k s (V : Int) (N : Int) ((i + 1 : Nat) : Int) = some (cvT (vrd (i + 1) V rest))) :
    spec_CodVarRead.j1 (k + 1) s (z : Int) (i : Int) (N : Int) (i : Int) false = some (cvT (vrd i z (c :: rest))) := by
  obtain ⟨hc, hlt⟩ := bt_cons s i c rest hcr
  have hc256 := c.toNat_lt
  rw [spec_CodVarRead.j1, if_neg (by decide), if_pos (by omega), if_pos (by omega)]
  have hw : wrap64 (7 * (i : Int)) = ((7 * i : Nat) : Int) := by unfold wrap64; omega
  have hw1 : wrap64 ((i : Int) + 1) = ((i + 1 : Nat) : Int) := by unfold wrap64; omega
  rw [hw, hw1, if_pos (by omega), hc]
  have ha : Go.bits .and .u8 (c.toNat : Int) 127 = ((c.toNat % 128 : Nat) : Int) := u8_and127 _ hc256
  have hs : shl .u64 (IntKind.u64.wrap ((c.toNat % 128 : Nat) : Int)) ((7 * i : Nat) : Int) = IntKind.u64.wrap (((c.toNat % 128 : Nat) : Int) * 2 ^ (7 * i)) := by
    unfold shl
    rw [show IntKind.u64.wrap ((c.toNat % 128 : Nat) : Int) = ((c.toNat % 128 : Nat) : Int) by rw [IntKind.wrap_u64]; omega]
    have e : min (((7 * i : Nat) : Int)).toNat IntKind.u64.bits = 7 * i := by
      have : IntKind.u64.bits = 64 := rfl
      rw [this]; omega
    rw [e]
  have hbo : c.toNat % 128 * 2 ^ (7 * i) < 18446744073709551616 := by
    by_cases h9 : i = 9
    · subst h9
      have e : (2 : Nat) ^ (7 * 9) = 9223372036854775808 := by decide
      have : c.toNat % 128 ≤ 1 := by omega
      have := Nat.mul_le_mul_right (2 ^ (7 * 9)) this
      omega
    · exact mul_pow_lt _ _ (by omega) (by omega)
  have ho := orv z (c.toNat % 128) (7 * i) hz (by omega) hbo
  rw [ha, hs, ho]
  by_cases h128 : c.toNat < 128
  · rw [if_pos (by omega), vrd_end hb h128]
    simp only [cvT]
    rw [Nat.mod_eq_of_lt h128]
  · rw [if_neg (by omega), vrd_on hb h128]
    have h9 : i ≠ 9 := by intro e; apply hb; right; omega
    refine hk _ h128 (by omega) ?_
    rw [pow7]
    have : c.toNat % 128 * 2 ^ (7 * i) ≤ 127 * 2 ^ (7 * i) := Nat.mul_le_mul_right _ (by omega)
    omega
theorem cvr_l0 (s : ByteArray) (N : Nat) (hN : s.size = N) (hN32 : N ≤ 4294967296) : ∀ (d i z k : Nat), i + d = N → i ≤ 9 → z < 2 ^ (7 * i) → 2 * d + 2 ≤ k → spec_CodVarRead.l0 k s (z : Int) (N : Int) (i : Int) = some (cvT (vrd i z (s.data.toList.drop i))) := by
  intro d
  induction d with
  | zero =>
    intro i z k hd hi hz hk
    obtain ⟨k, rfl⟩ : ∃ k', k = k' + 1 := ⟨k - 1, by omega⟩
    rw [spec_CodVarRead.l0, if_neg (by omega), List.drop_eq_nil_of_le (by rw [Array.length_toList]; show s.size ≤ i; omega)]
    rfl
  | succ d ih =>
    intro i z k hd hi hz hk
    obtain ⟨k, rfl⟩ : ∃ k', k = k' + 2 := ⟨k - 2, by omega⟩
    obtain ⟨c, rest, hcr⟩ : ∃ c rest, s.data.toList.drop i = c :: rest := ⟨_, _, List.drop_eq_getElem_cons (by rw [Array.length_toList]; show i < s.size; omega)⟩
    obtain ⟨hc, hlt⟩ := bt_cons s i c rest hcr
    have hdr : s.data.toList.drop (i + 1) = rest := by rw [← List.drop_drop, hcr]; rfl
    have hJ := fun hb => cvr_j1 s N hN hN32 i z k c rest hcr hi hz hb (fun V _ h9 hV => by rw [← hdr]; exact ih (i + 1) V k (by omega) h9 hV (by omega))
    rw [spec_CodVarRead.l0, if_pos (by omega), hcr]
    by_cases h9 : i = 9
    · rw [if_pos (by omega), if_pos (by omega), if_pos (by omega), hc]
      by_cases h1 : 1 < c.toNat
      · rw [if_pos (by omega), spec_CodVarRead.j1, if_pos rfl, vrd_bad (.inr ⟨h9, h1⟩)]
        rfl
      · rw [if_neg (by omega), show decide ((i : Int) > 9) = false by rw [decide_eq_false_iff_not]; omega]
        exact hJ (by omega)
    · rw [if_neg (by omega), show decide ((i : Int) > 9) = false by rw [decide_eq_false_iff_not]; omega]
      exact hJ (by omega)
theorem cvr_f (s : ByteArray) (hs : s.size ≤ 4294967296) (k : Nat) (hk : 2 * s.size + 2 ≤ k) : spec_CodVarRead.f k s = some (cvT (vrd 0 0 s.data.toList)) := by
  have := cvr_l0 s s.size rfl hs s.size 0 0 k (by omega) (by omega) (by decide) hk
  rw [List.drop_zero] at this
  exact this
theorem beNat_snoc (l : List UInt8) (x : UInt8) : Lib.beNat (l ++ [x]) = Lib.beNat l * 256 + x.toNat := by
  rw [Lib.beNat_eq, Lib.beNat_eq, List.reverse_append, List.reverse_singleton, List.singleton_append, Lib.leNat]; omega
theorem num_l0 (s : ByteArray) (z : Nat) (hz : z ≤ 8) (hs : z ≤ s.size) : ∀ (d i k : Nat), i + d = z → d + 1 ≤ k → spec_codNumber.l0 k s ((Lib.beNat (s.data.toList.take i) : Nat) : Int) (z : Int) (i : Int) = some (((Lib.beNat (s.data.toList.take z) : Nat) : Int), 0) := by
  intro d
  induction d with
  | zero =>
    intro i k hd hk
    obtain ⟨k, rfl⟩ : ∃ k', k = k' + 1 := ⟨k - 1, by omega⟩
    rw [spec_codNumber.l0, if_neg (by omega)]
    obtain rfl : i = z := by omega
    rfl
  | succ d ih =>
    intro i k hd hk
    obtain ⟨k, rfl⟩ : ∃ k', k = k' + 1 := ⟨k - 1, by omega⟩
    have hlt : i < s.data.toList.length := by rw [Array.length_toList]; show i < s.size; omega
    have hcr := List.drop_eq_getElem_cons hlt
    obtain ⟨hc, hl2⟩ := bt_cons s i _ _ hcr
    rw [spec_codNumber.l0, if_pos (by omega), if_pos (by omega), if_pos (by omega), hc]
    have hw1 : wrap64 ((i : Int) + 1) = ((i + 1 : Nat) : Int) := by unfold wrap64; omega
    rw [hw1]
    have hc256 := (s.data.toList[i]).toNat_lt
    have hL : (s.data.toList.take i).length = i := by rw [List.length_take]; omega
    have hb : Lib.beNat (s.data.toList.take i) < 256 ^ i := by
      have := beNat_lt (s.data.toList.take i); rwa [hL] at this
    have hp : 256 ^ i ≤ 256 ^ 7 := Nat.pow_le_pow_right (by omega) (by omega)
    have e7 : (256 : Nat) ^ 7 = 72057594037927936 := by decide
    have hn : Lib.beNat (s.data.toList.take (i + 1)) = Lib.beNat (s.data.toList.take i) * 256 + (s.data.toList[i]).toNat := by
      rw [List.take_succ_eq_append_getElem hlt, beNat_snoc]
    have e1 : IntKind.u64.wrap (((Lib.beNat (s.data.toList.take i) : Nat) : Int) * 256) = ((Lib.beNat (s.data.toList.take i) * 256 : Nat) : Int) := by rw [IntKind.wrap_u64]; omega
    have e2 : IntKind.u64.wrap ((s.data.toList[i]).toNat : Int) = ((s.data.toList[i]).toNat : Int) := by rw [IntKind.wrap_u64]; omega
    rw [e1, e2, bits_or_u64_nat _ _ (by omega) (by omega)]
    have e3 : Lib.beNat (s.data.toList.take i) * 256 ||| (s.data.toList[i]).toNat = Lib.beNat (s.data.toList.take (i + 1)) := by
      rw [hn]
      have := or_shl (s.data.toList[i]).toNat (Lib.beNat (s.data.toList.take i)) 8 hc256
      rw [show (2 : Nat) ^ 8 = 256 by decide] at this
      rw [Nat.or_comm, this, Nat.add_comm]
    rw [e3]
    exact ih (i + 1) k (by omega) (by omega)
theorem num_f (s : ByteArray) (z : Nat) (hz : z ≤ 8) (hs : z ≤ s.size) : spec_codNumber.f 10 s (z : Int) = some (((Lib.beNat (s.data.toList.take z) : Nat) : Int), 0) := by
  unfold spec_codNumber.f
  rw [if_neg (by omega)]
  have := num_l0 s z hz hs z 0 10 (by omega) (by omega)
  rw [List.take_zero] at this
  exact this
theorem num_bad (s : ByteArray) (z : Nat) (hs : s.size < z) : spec_codNumber.f 10 s (z : Int) = some (0, 1) := by
  unfold spec_codNumber.f
  rw [if_pos (by omega)]
theorem num_fk (s : ByteArray) (z k : Nat) (hk : 10 ≤ k) (hz : z ≤ 8) (hs : z ≤ s.size) : spec_codNumber.f k s (z : Int) = some (((Lib.beNat (s.data.toList.take z) : Nat) : Int), 0) := by
  unfold spec_codNumber.f
  rw [if_neg (by omega)]
  have := num_l0 s z hz hs z 0 k (by omega) (by omega)
  rw [List.take_zero] at this
  exact this
theorem num_badk (s : ByteArray) (z k : Nat) (hs : s.size < z) : spec_codNumber.f k s (z : Int) = some (0, 1) := by
  unfold spec_codNumber.f
  rw [if_pos (by omega)]
theorem xor_time (z : Nat) (hz : z < 18446744073709551616) : ∃ V : Nat, bits .xor .u64 (z : Int) 9223372036854775808 = (V : Int) ∧ wrap64 (V : Int) = wrap64 (wrap64 (z : Int) + -9223372036854775808) := by
  have hu : u64of (wrap64 (z : Int)) = z := by unfold u64of wrap64; omega
  have h := xor_sign (wrap64 (z : Int)) (by unfold wrap64; omega) (by unfold wrap64; omega)
  rw [hu] at h
  refine ⟨_, h, ?_⟩
  have : 0 ≤ wrap64 (z : Int) + 9223372036854775808 := by unfold wrap64; omega
  rw [Int.toNat_of_nonneg this]
  unfold wrap64; omega
end Go.Proofs.YtgdbeiadlgkedaaGreatDoor
namespace Go.Proofs.YtgdbeiadlgkedaaGreatDoor
open Go.RowKit
set_option linter.unusedVariables false
set_option linter.unusedSimpArgs false
def cvr (R : Option (Nat × Nat)) : Value := match R with
  | some (v, k) => .tuple #[.int .u64 (v : Nat), .int .i64 (k : Nat), .int .i64 0]
  | none => .tuple #[.int .u64 0, .int .i64 0, .int .i64 1]
set_option maxHeartbeats 8000000 in
set_option maxRecDepth 100000 in
theorem codVarRead_any (s : ByteArray) (w : World) (hs : s.size ≤ 4294967296) (R : Option (Nat × Nat)) (hR : vrd 0 0 s.data.toList = R) :
    Calls Tryz.prog 60 #[.string s] w fun e w' => e = .returned (cvr R) ∧ w = w' := by
  obtain ⟨N, hN⟩ : ∃ N, N = s.size := ⟨_, rfl⟩
  have hN2 := hN.symm
  have HL := Lib.hid (show s.data.toList.length = N by rw [Array.length_toList]; exact hN.symm)
  have HS := Lib.hid hs
  have HR := Lib.hid hR
  clear hs hR hN
  go_enter Tryz.func60, Tryz.ntmps60
  go_wp2
  go_loopg [5, 9] N (fun kq v5 v9 wr => ∃ (i z : Nat), v5 = .int .u64 z ∧ v9 = .int .i64 i ∧ Hid (kq + i = N) ∧ Hid (vrd i z (s.data.toList.drop i) = R ∧ i ≤ 9 ∧ z < 2 ^ (7 * i)) ∧ w = wr)
  case atStart => exact ⟨0, 0, rfl, rfl, Lib.hid rfl, Lib.hid ⟨by rw [List.drop_zero]; exact HR.out, by omega, by decide⟩, rfl⟩
  case round =>
    clear HR
    obtain ⟨i, z, rfl, rfl, HI, HV, hw⟩ := hrel
    subst hw
    have hw1 : wrap64 ((i : Int) + 1) = (i : Int) + 1 := IntWalk.wrap64_in _ (by have := HV.out; omega)
    have hw2 : IntKind.i64.wrap ((i : Int) + 1) = (i : Int) + 1 := IntWalk.i64_in _ (by have := HV.out; omega)
    cases gk with
    | zero =>
      obtain rfl : i = N := by have := HI.out; omega
      have hR : R = none := by rw [← HV.out.1, List.drop_eq_nil_of_le (by rw [HL.out]; omega)]; rfl
      have HR := Lib.hid hR
      clear hR hw1 hw2
      go_wp2
      go_ret3
      exact ⟨by rw [HR.out]; rfl, rfl⟩
    | succ d =>
      have hlt : (i : Int) < (N : Int) := by have := HI.out; omega
      have hlt2 : i < N := by omega
      obtain ⟨c, rest, hcr⟩ : ∃ c rest, s.data.toList.drop i = c :: rest := ⟨_, _, List.drop_eq_getElem_cons (by rw [HL.out]; omega)⟩
      have hg := get_at s i c rest hcr
      have hc256 := c.toNat_lt
      have HCR := Lib.hid hcr
      obtain ⟨n, hn⟩ : ∃ n, Hid (c.toNat = n) := ⟨_, Lib.hid rfl⟩
      obtain ⟨b, hb⟩ : ∃ b, Hid (n % 128 = b) := ⟨_, Lib.hid rfl⟩
      obtain ⟨sh, hsh⟩ : ∃ sh, Hid (7 * i = sh) := ⟨_, Lib.hid rfl⟩
      have hlt3 : i < s.size := by omega
      have qa : bits .and .u8 (n : Int) 127 = (b : Int) := by rw [← hn.out, u8_and127 c.toNat hc256, hn.out, hb.out]
      have qb : IntKind.u64.wrap (b : Int) = (b : Int) := by rw [IntKind.wrap_u64]; have := hb.out; omega
      have qs : wrap64 (7 * (i : Int)) = (sh : Int) := by rw [IntWalk.wrap64_in _ (by have := HV.out; omega)]; have := hsh.out; omega
      have qs2 : IntKind.i64.wrap (7 * (i : Int)) = (sh : Int) := by rw [IntWalk.i64_in _ (by have := HV.out; omega)]; have := hsh.out; omega
      have hsh63 : (sh : Int) < 64 := by have := hsh.out; have := HV.out; omega
      have hsh64 : sh < 64 := by omega
      have hcn : c.toNat = n := hn.out
      by_cases h9 : i = 9
      · have hi9 : ((i : Int) == 9) = true := by rw [beq_iff_eq]; omega
        by_cases h1 : 1 < n
        · have h1' : 1 < (n : Int) := by omega
          have HR := Lib.hid (show R = none by rw [← HV.out.1, HCR.out]; exact vrd_bad (.inr ⟨h9, by omega⟩))
          clear h9 h1 hcr hc256 qa qb qs qs2 hsh63 hsh64 hw1 hw2
          go_wp2
          go_ret3
          exact ⟨by rw [HR.out]; rfl, rfl⟩
        · have h1' : ¬ 1 < (n : Int) := by omega
          have h2' : (n : Int) < 128 := by omega
          have hi10 : ¬ 9 < (i : Int) := by omega
          obtain ⟨V, hV⟩ : ∃ V, Hid (z + b * 2 ^ sh = V) := ⟨_, Lib.hid rfl⟩
          have hbn : b = n := by have := hb.out; omega
          have hsh9 : sh = 63 := by have := hsh.out; omega
          have qv : bits .or .u64 (z : Int) (IntKind.u64.wrap ((b : Int) * 2 ^ sh)) = (V : Int) := by
            rw [orv z b sh (by rw [← hsh.out]; exact HV.out.2.2) (by omega) (by
              rw [hsh9]
              have e : (2 : Nat) ^ 63 = 9223372036854775808 := by decide
              have : b * 2 ^ 63 ≤ 1 * 2 ^ 63 := Nat.mul_le_mul_right _ (by omega)
              omega), hV.out]
          have HR := Lib.hid (show R = some (V, i + 1) by
            rw [← HV.out.1, HCR.out, vrd_end (by omega) (by omega), ← hV.out, hsh.out, hbn, hcn])
          clear h9 h1 hcr hc256 hbn hsh9
          go_wp2
          go_ret3
          exact ⟨by rw [HR.out]; rfl, rfl⟩
      · have hi9 : ((i : Int) == 9) = false := by rw [beq_eq_false_iff_ne]; omega
        have hi10 : ¬ 9 < (i : Int) := by have := HV.out; omega
        obtain ⟨V, hV⟩ : ∃ V, Hid (z + b * 2 ^ sh = V) := ⟨_, Lib.hid rfl⟩
        have hb1 : b < 128 := by have := hb.out; omega
        have qv : bits .or .u64 (z : Int) (IntKind.u64.wrap ((b : Int) * 2 ^ sh)) = (V : Int) := by
          rw [orv z b sh (by rw [← hsh.out]; exact HV.out.2.2) (by have := hsh.out; have := HV.out; omega) (by rw [← hsh.out]; exact mul_pow_lt b i hb1 (by have := HV.out; omega)), hV.out]
        by_cases h128 : n < 128
        · have h2' : (n : Int) < 128 := by omega
          have hbn : b = n := by have := hb.out; omega
          have HR := Lib.hid (show R = some (V, i + 1) by
            rw [← HV.out.1, HCR.out, vrd_end (by have := HV.out; omega) (by omega), ← hV.out, hsh.out, hbn, hcn])
          clear h9 h128 hcr hc256 hbn hb1
          go_wp2
          go_ret3
          exact ⟨by rw [HR.out]; rfl, rfl⟩
        · have h2' : ¬ (n : Int) < 128 := by omega
          have HNX := Lib.hid (show vrd (i + 1) V rest = R ∧ i + 1 ≤ 9 ∧ V < 2 ^ (7 * (i + 1)) by
            refine ⟨?_, by have := HV.out; omega, ?_⟩
            · rw [← HV.out.1, HCR.out, vrd_on (by have := HV.out; omega) (by omega), ← hV.out, hsh.out, hcn, hb.out]
            · rw [← hV.out, ← hsh.out, pow7]
              have := HV.out.2.2
              have : b * 2 ^ (7 * i) ≤ 127 * 2 ^ (7 * i) := Nat.mul_le_mul_right _ (by omega)
              omega)
          have HDR := Lib.hid (show s.data.toList.drop (i + 1) = rest by rw [← List.drop_drop, HCR.out]; rfl)
          clear h9 h128 hcr hc256 hb1
          go_wp2
          go_roundg d
          case measure => exact Nat.lt_succ_self d
          case rel => exact ⟨i + 1, V, rfl, by go_num, Lib.hid (by have := HI.out; omega), Lib.hid (by rw [HDR.out]; exact HNX.out), rfl⟩
end Go.Proofs.YtgdbeiadlgkedaaGreatDoor
