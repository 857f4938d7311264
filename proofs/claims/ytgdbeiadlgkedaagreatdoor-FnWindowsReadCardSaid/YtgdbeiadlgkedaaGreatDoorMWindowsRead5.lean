/- Contracts and plain laws, several texts in one. -/
import Derived.Test.YtgdbeiadlgkedaaGreatDoorMWindowsRead0
import Derived.Test.YtgdbeiadlgkedaaGreatDoorMWindowsRead1
import Derived.Test.YtgdbeiadlgkedaaGreatDoorMWindowsRead2
import Derived.Test.YtgdbeiadlgkedaaGreatDoorMWindowsRead3
import Derived.Test.YtgdbeiadlgkedaaGreatDoorMWindowsRead4
import Derived.Test.YtgdbeiadlgkedaaGreatDoorMWindowsRead6
import Derived.Test.YtgdbeiadlgkedaaGreatDoorProg
import Derived.Below
import Derived.Deep.Draws
import Derived.Deep.AppendLies
import Derived.Maps.AppendAt
import Derived.OwnWalk
import Derived.Laws.BytesArg
import Derived.Laws.MakeOwn
import Derived.Laws.OwnMore
import Derived.Deep.OwnRows
import Derived.Tactics
import Derived.Lib.ConvBytes
import Derived.Laws.Slices
import Derived.WalkKit
import Derived.KernelRfl
import Derived.RowKit3
import Derived.Deep.LoopGhost
import Derived.Deep.QuietTactic
import Derived.BigQuiet
import Derived.WideLaws
import Derived.Deep.DeepCutAuto
import Derived.Deep.CutBlock
import Derived.Deep.RegionHeld3
import Derived.Laws.Rows
import Derived.Lib.AppendStr
import Derived.ArgAppend
import Derived.Laws.IdiomCopy
import Derived.OrdersHeld
import Derived.Laws.BitsLemmas
import Derived.RowKit
import Derived.Lib.Varint
import Derived.Handy
import Derived.LoopN
import Derived.Lib.EndianMore
namespace Go.Proofs.YtgdbeiadlgkedaaGreatDoor.PFnWindowOne
open Go.RowKit Go.Proofs.YtgdbeiadlgkedaaGreatDoorW.PrintWords Go.Proofs.YtgdbeiadlgkedaaGreatDoorW.PrintLast Go.Proofs.YtgdbeiadlgkedaaGreatDoorW.PrintMore
attribute [local go_sem] max2_int min2_int max_two min_two max_three min_three max_four min_four
set_option linter.unusedVariables false
set_option linter.unusedSimpArgs false
def errW : Option Int → Value
  | none => .nilIface
  | some c => .iface 0 (.int .i64 c)
theorem errW_none : errW none = .nilIface := rfl
theorem errW_some (c : Int) : errW (some c) = .iface 0 (.int .i64 c) := rfl
theorem info32 : (Tryz.prog.info? 32).map (fun i => (i.zero, i.size, i.bytes)) = some (some (.agg #[(.bool false), (.int .i64 0), (.int .i64 0)]), 3, 24) := by kernel_rfl
structure S23 where
  f0 : Bool
  f1 : Int
  f2 : Int
def z23 : S23 := ⟨false, (0 : Int), (0 : Int)⟩
def k23 : Kd S23 := Kd.iso (Kd.pair Kd.bool (Kd.pair (Kd.int .i64) (Kd.int .i64))) (fun x : S23 => (x.f0, x.f1, x.f2))
theorem k23_open {w : World} {x : S23} {cs : List Value} (h : k23.K w x cs) : cs = [.bool x.f0, .int .i64 x.f1, .int .i64 x.f2] := by
  obtain ⟨_, _, rfl, rfl, ⟨_, _, rfl, rfl, rfl⟩⟩ := h
  exact rfl
theorem k23_mkM (w : World) (base : Nat) (ok : Nat → Prop) (x : S23)  : k23.M w base ok x [.bool x.f0, .int .i64 x.f1, .int .i64 x.f2] := ⟨[.bool x.f0], [.int .i64 x.f1, .int .i64 x.f2], rfl, rfl, ⟨[.int .i64 x.f1], [.int .i64 x.f2], rfl, rfl, rfl⟩⟩
def rd_T23 (xs : List S23) (i : Int) : S23 := xs.getD i.toNat z23
theorem at_T23 {w : World} {A : Option Addr} {n : Nat} {xs : List S23} (h : Kd.C k23 w A n xs) (i : Int) (h0 : 0 ≤ i) (h1 : i < n) : ∃ ad , A = some ad ∧ w.cell? (ad.add (i.toNat * 3)) = some (.bool (rd_T23 xs i).f0) ∧ w.cell? ⟨(ad.add (i.toNat * 3)).block, (ad.add (i.toNat * 3)).off + 1, none⟩ = some (.int .i64 (rd_T23 xs i).f1) ∧ w.cell? ⟨(ad.add (i.toNat * 3)).block, (ad.add (i.toNat * 3)).off + 2, none⟩ = some (.int .i64 (rd_T23 xs i).f2) := by
  obtain ⟨ad, c, e, _, hK, hc0⟩ := Kd.C_get h z23 i h0 h1
  have hc : ∀ j u, c[j]? = some u → w.cell? (ad.add (i.toNat * 3 + j)) = some u := hc0
  obtain rfl := k23_open hK
  exact ⟨ad, e, hc 0 _ rfl, by rw [← add_field _ _ 1 (by omega)]; exact hc 1 _ rfl, by rw [← add_field _ _ 2 (by omega)]; exact hc 2 _ rfl⟩
structure S32 where
  f0 : Bool
  f1 : Int
  f2 : Int
def z32 : S32 := ⟨false, (0 : Int), (0 : Int)⟩
def k32 : Kd S32 := Kd.iso (Kd.pair Kd.bool (Kd.pair (Kd.int .i64) (Kd.int .i64))) (fun x : S32 => (x.f0, x.f1, x.f2))
theorem k32_open {w : World} {x : S32} {cs : List Value} (h : k32.K w x cs) : cs = [.bool x.f0, .int .i64 x.f1, .int .i64 x.f2] := by
  obtain ⟨_, _, rfl, rfl, ⟨_, _, rfl, rfl, rfl⟩⟩ := h
  exact rfl
theorem k32_mk (w : World) (x : S32)  : k32.K w x [.bool x.f0, .int .i64 x.f1, .int .i64 x.f2] := ⟨[.bool x.f0], [.int .i64 x.f1, .int .i64 x.f2], rfl, rfl, ⟨[.int .i64 x.f1], [.int .i64 x.f2], rfl, rfl, rfl⟩⟩
theorem k32_mkM (w : World) (base : Nat) (ok : Nat → Prop) (x : S32)  : k32.M w base ok x [.bool x.f0, .int .i64 x.f1, .int .i64 x.f2] := ⟨[.bool x.f0], [.int .i64 x.f1, .int .i64 x.f2], rfl, rfl, ⟨[.int .i64 x.f1], [.int .i64 x.f2], rfl, rfl, rfl⟩⟩
def rd_T32 (xs : List S32) (i : Int) : S32 := xs.getD i.toNat z32
theorem at_T32 {w : World} {A : Option Addr} {n : Nat} {xs : List S32} (h : Kd.C k32 w A n xs) (i : Int) (h0 : 0 ≤ i) (h1 : i < n) : ∃ ad , A = some ad ∧ w.cell? (ad.add (i.toNat * 3)) = some (.bool (rd_T32 xs i).f0) ∧ w.cell? ⟨(ad.add (i.toNat * 3)).block, (ad.add (i.toNat * 3)).off + 1, none⟩ = some (.int .i64 (rd_T32 xs i).f1) ∧ w.cell? ⟨(ad.add (i.toNat * 3)).block, (ad.add (i.toNat * 3)).off + 2, none⟩ = some (.int .i64 (rd_T32 xs i).f2) := by
  obtain ⟨ad, c, e, _, hK, hc0⟩ := Kd.C_get h z32 i h0 h1
  have hc : ∀ j u, c[j]? = some u → w.cell? (ad.add (i.toNat * 3 + j)) = some u := hc0
  obtain rfl := k32_open hK
  exact ⟨ad, e, hc 0 _ rfl, by rw [← add_field _ _ 1 (by omega)]; exact hc 1 _ rfl, by rw [← add_field _ _ 2 (by omega)]; exact hc 2 _ rfl⟩
end Go.Proofs.YtgdbeiadlgkedaaGreatDoor.PFnWindowOne
set_option linter.unusedVariables false
set_option linter.unusedSimpArgs false
namespace Go.Proofs.YtgdbeiadlgkedaaGreatDoor.PFnWindowOne
open Go.RowKit Go.Proofs.YtgdbeiadlgkedaaGreatDoorW.PrintWords Go.Proofs.YtgdbeiadlgkedaaGreatDoorW.PrintLast Go.Proofs.YtgdbeiadlgkedaaGreatDoorW.PrintMore
def laws_codSpanOf.l0 : Nat → List (S32) → List (S23) → Int → Int → Option ((List (S32)))
  | 0, _, _, _, _ => none
  | k + 1, x3, x6, x7, x8 => if x8 < x7 then (if 0 ≤ x8 then (if x8 < (x6.length : Int) then (if x3.length < 5864062014805 then (laws_codSpanOf.l0 k (x3 ++ [(⟨(rd_T23 x6 x8).f0, (rd_T23 x6 x8).f1, (rd_T23 x6 x8).f2⟩ : S32)]) x6 x7 (wrap64 (x8 + 1))) else (none)) else (none)) else (none)) else (some x3)
def laws_codSpanOf.f (k : Nat) (l0 : List (S23)) : Option ((List (S32))) := laws_codSpanOf.l0 k ([] : List (S32)) l0 (l0.length : Int) 0
theorem laws_codSpanOf.mono_l : ∀ k, (∀ y0 y1 y2 y3, LeO (laws_codSpanOf.l0 k y0 y1 y2 y3) (laws_codSpanOf.l0 (k + 1) y0 y1 y2 y3))
  | 0 => fun _ _ _ _ r h => by simp [laws_codSpanOf.l0] at h
  | k + 1 => by
    have ih0 := laws_codSpanOf.mono_l k
    · intro y0 y1 y2 y3
      unfold laws_codSpanOf.l0
      repeat' first
      | (with_reducible exact ih0 _ _ _ _)
      | (with_reducible exact LeO.refl _)
      | (with_reducible exact LeO.none _)
      | (with_reducible refine LeO.ite ?_ ?_)
      | (with_reducible refine LeO.bind ?_ (fun _ => ?_))
      | exact ih0 _ _ _ _
      | exact LeO.none _
      | refine LeO.ite ?_ ?_
      | refine LeO.bind ?_ (fun _ => ?_)
theorem laws_codSpanOf.mono : ∀ a0 k, LeO (laws_codSpanOf.f k a0) (laws_codSpanOf.f (k + 1) a0) := by
  intro a0 k
  have ih0 := laws_codSpanOf.mono_l k
  unfold laws_codSpanOf.f
  repeat' first
      | (with_reducible exact ih0 _ _ _ _)
      | (with_reducible exact LeO.refl _)
      | (with_reducible exact LeO.none _)
      | (with_reducible refine LeO.ite ?_ ?_)
      | (with_reducible refine LeO.bind ?_ (fun _ => ?_))
      | exact ih0 _ _ _ _
      | exact LeO.none _
      | refine LeO.ite ?_ ?_
      | refine LeO.bind ?_ (fun _ => ?_)
set_option maxHeartbeats 8000000 in
set_option maxRecDepth 100000 in
theorem laws_codSpanOf.calls (k : Nat) (A0 : Option Addr) (c0 : Nat) (l0 : List (S23)) (r : List (S32)) (w : World) (hr0 : Kd.C k23 w A0 l0.length l0) (hc0 : l0.length ≤ c0) (h : laws_codSpanOf.f k l0 = some r) :
    Calls Tryz.prog 15 #[.slice A0 l0.length c0] w fun e w' => ∃ v0_ : Value, e = .returned (v0_) ∧ Kd.R k32 32 w' w.heap.size (fun _ => True) v0_ r ∧ Below w.heap.size w w' := by
  have hu23 := Tryz.underlying23
  have hu32 := Tryz.underlying32
  have HR0 := Aside0.mk hr0
  have HC0 := Aside0.mk hc0
  clear hr0 hc0
  have HB := Aside0.mk (Below.refl w.heap.size w)
  have H : (laws_codSpanOf.l0 k ([] : List (S32)) l0 (l0.length : Int) 0) = some r := h
  clear h
  have H' := Aside0.mk H
  clear H
  go_enter Tryz.func15, Tryz.ntmps15
  go_wp2
  go_loopg [3, 8] k (fun kq v3 v8 w' => ∃ (x3_1 : List (S32)) (x8_1 : Int), v8 = .int .i64 x8_1 ∧ Aside0 (laws_codSpanOf.l0 kq x3_1 l0 (l0.length : Int) x8_1 = some r) ∧ Aside0 (kq ≤ k) ∧ Aside0 (Kd.R k32 32 w' w.heap.size (fun _ => True) v3 x3_1) ∧ Aside0 (Below w.heap.size w w'))
  case atStart => exact ⟨(([] : List (S32))), (0), (by first | rfl | (simp; done) | (simp [*]; done)), H', ⟨Nat.le_refl _⟩, ⟨by first | exact Kd.R_nil _ _ _ _ _ | exact Kd.N_nil _ _ _ _ _ | exact Kd.V_nil _ _ _ _ _ | exact Kd.Q_nil _ _ _ _ _ | exact Kd.S_nil _ _ _ _ _⟩, ⟨by repeat (first | (with_reducible first | exact HB.out | apply below_alloc | apply pw_below_drewN | apply below_drew1) | exact HB.out)⟩⟩
  case round =>
    clear H'
    try clear c1
    obtain ⟨x3_1, x8_1, rfl, HA, HK1, HO_3, HB⟩ := hrel
    cases gk with
    | zero => exact absurd HA.out (by simp [laws_codSpanOf.l0])
    | succ k1 =>
      have H := HA.out
      clear HA
      simp only [laws_codSpanOf.l0] at H
      by_cases c2 : x8_1 < (l0.length : Int)
      · rw [if_pos c2] at H
        have c2b0 : decide (x8_1 < (l0.length : Int)) = true := decide_eq_true c2
        clear c2
        by_cases c3 : 0 ≤ x8_1
        · rw [if_pos c3] at H
          have c3b0 : decide (0 ≤ x8_1) = true := decide_eq_true c3
          clear c3
          by_cases c4 : x8_1 < (l0.length : Int)
          · rw [if_pos c4] at H
            have c4b0 : decide (x8_1 < (l0.length : Int)) = true := decide_eq_true c4
            clear c4
            by_cases c5 : x3_1.length < 5864062014805
            · rw [if_pos c5] at H
              have LMc5 := Aside0.mk c5
              clear c5
              obtain ⟨y103, hy103⟩ : ∃ y_ : List (S32), y_ = (x3_1 ++ [(⟨(rd_T23 l0 x8_1).f0, (rd_T23 l0 x8_1).f1, (rd_T23 l0 x8_1).f2⟩ : S32)]) := ⟨_, rfl⟩
              replace H : (laws_codSpanOf.l0 k1 y103 l0 (l0.length : Int) (wrap64 (x8_1 + 1))) = some r := by first | (rw [hy103]; with_reducible exact H) | (have H2_ := (Option.bind_some _ _).symm.trans H; rw [hy103]; with_reducible exact H2_) | (have H2_ := (Option.bind_some _ _).symm.trans H; with_reducible exact H2_) | with_reducible exact H | (rw [hy103]; exact H) | exact H
              have Ny103 := Aside0.mk hy103
              clear hy103
              have H' := Aside0.mk H
              clear H
              have p101 : 0 ≤ (x8_1 : Int) := of_decide_eq_true (by first | (with_reducible assumption) | assumption)
              have q101 : x8_1 < (l0.length : Int) := of_decide_eq_true (by first | (with_reducible assumption) | assumption)
              obtain ⟨ad101, e101, hx101_0, hx101_1, hx101_2⟩ := at_T23 HR0.out x8_1 p101 q101
              cases e101
              replace hx101_0 := (HB.out.cell (World.block_lt_of_cell? w _ hx101_0)).trans hx101_0
              replace hx101_1 := (HB.out.cell (World.block_lt_of_cell? w _ hx101_1)).trans hx101_1
              replace hx101_2 := (HB.out.cell (World.block_lt_of_cell? w _ hx101_2)).trans hx101_2
              replace p101 := eq_true p101
              replace q101 := eq_true q101
              go_wp2_with (first | ((with_reducible refine gate_dst (N := 5) rfl ?_); refine box_event ?hg (N := 5) ?hd (cs := #[.bool false, .int .i64 0, .int .i64 0]) (t := 23) ?hr ?_; (case hd => rfl); (case hg => rfl); (case hr => first | (go_simp; done) | (go_simp; rfl)); intro gb102 hg w6 hbox hb; have n0_ := Aside0.mk (Kd.R_below (by (with_reducible repeat (first | apply Kd.R_alloc | apply Kd.R_drewN | apply Kd.R_drew)); exact HO_3.out) hb); have n1_ := Aside0.mk (below_step (by repeat (first | (with_reducible first | exact HB.out | apply below_alloc | apply pw_below_drewN | apply below_drew1) | exact HB.out)) hb); have n2_ := Aside0.mk (hbox); have n3_ := Aside0.mk ((by rw [hg]; exact (below_size (by repeat (first | (with_reducible first | exact HB.out | apply below_alloc | apply pw_below_drewN | apply below_drew1) | exact HB.out))) : w.heap.size ≤ gb102)); have n4_ := Aside0.mk ((by rw [hg]; exact (below_size (by repeat (first | (with_reducible first | exact HB.out | apply below_alloc | apply pw_below_drewN | apply below_drew1) | exact HB.out))) : w.heap.size ≤ gb102)); clear HO_3; clear HB; have HO_3 := n0_; have HB := n1_; have BK102 := n2_; have GW102 := n3_; have GE102 := n4_; clear n0_ n1_ n2_ n3_ n4_; clear hb hbox hg; have hcz7_0 : w6.cell? ⟨gb102, 0, none⟩ = some (.bool false) := (blk_cell BK102.out 0).trans rfl; have hcz7_1 : w6.cell? ⟨gb102, 1, none⟩ = some (.int .i64 0) := (blk_cell BK102.out 1).trans rfl; have hcz7_2 : w6.cell? ⟨gb102, 2, none⟩ = some (.int .i64 0) := (blk_cell BK102.out 2).trans rfl; have hfz7_0 := blk_frozen BK102.out 0; have hfz7_1 := blk_frozen BK102.out 1; have hfz7_2 := blk_frozen BK102.out 2) | ((with_reducible refine gate_builtin (b := .append) (xs := #[.tmp 12, .tmp 20]) rfl ?_); at_builtin; refine Kd.R_append k32 (w0 := w) w.heap.size rfl (.tmp 12) (.tmp 20) 33 32 (.agg #[(.bool false), (.int .i64 0), (.int .i64 0)]) 24 rfl Tryz.underlying33 info32 rfl (by decide) (by omega) u3 x3_1 (⟨(rd_T23 l0 x8_1).f0, (rd_T23 l0 x8_1).f1, (rd_T23 l0 x8_1).f2⟩ : S32) [.bool ((rd_T23 l0 x8_1).f0), .int .i64 ((rd_T23 l0 x8_1).f1), .int .i64 ((rd_T23 l0 x8_1).f2)] (fun _ => True) (fun _ => False) rfl (by first | (go_simp; done) | (go_simp; rfl)) ?aP (fun _ hk => hk.elim) ?aF ?aO ?aB ?aS ?aL ?_; (case aP => exact k32_mkM _ _ _ (⟨(rd_T23 l0 x8_1).f0, (rd_T23 l0 x8_1).f1, (rd_T23 l0 x8_1).f2⟩ : S32)); (case aB => exact (by repeat (first | (with_reducible first | exact HB.out | apply below_alloc | apply pw_below_drewN | apply below_drew1 | refine below_set ?_ GE102.out) | exact HB.out))); (case aF => exact (fun _ _ => trivial)); (case aO => exact (by (with_reducible repeat (first | apply Kd.R_alloc | apply Kd.R_drewN | apply Kd.R_drew)); exact Kd.R_mono (Kd.R_far (p := ⟨gb102, 2, none⟩) (Kd.R_far (p := ⟨gb102, 1, none⟩) (Kd.R_far (p := ⟨gb102, 0, none⟩) (Kd.R_types HO_3.out BK102.out (by decide)) (fun _ hk => hk.2) (.bool ((rd_T23 l0 x8_1).f0))) (fun _ hk => hk.2) (.int .i64 ((rd_T23 l0 x8_1).f1))) (fun _ hk => hk.2) (.int .i64 ((rd_T23 l0 x8_1).f2))) (fun _ hk => trivial))); (case aS => exact (below_size (by repeat (first | (with_reducible first | exact HB.out | apply below_alloc | apply pw_below_drewN | apply below_drew1 | refine below_set ?_ GE102.out) | exact HB.out)))); (case aL => have := LMc5.out; omega); intro v104 w8 ho hb hg hat; rw [← Ny103.out] at ho; have n0_ := Aside0.mk (blk_grown (g := gb102) (o := .cells #[.bool ((rd_T23 l0 x8_1).f0), .int .i64 ((rd_T23 l0 x8_1).f1), .int .i64 ((rd_T23 l0 x8_1).f2)] 23 (0, 0)) (by (with_reducible repeat (first | refine blk_drewN ?_ _ | refine blk_drew ?_ | refine blk_alloc ?_ _)); refine blk_put (cs := #[.bool ((rd_T23 l0 x8_1).f0), .int .i64 ((rd_T23 l0 x8_1).f1), .int .i64 0]) ?_ 2 _ rfl; (with_reducible repeat (first | refine blk_drewN ?_ _ | refine blk_drew ?_ | refine blk_alloc ?_ _)); refine blk_put (cs := #[.bool ((rd_T23 l0 x8_1).f0), .int .i64 0, .int .i64 0]) ?_ 1 _ rfl; (with_reducible repeat (first | refine blk_drewN ?_ _ | refine blk_drew ?_ | refine blk_alloc ?_ _)); refine blk_put (cs := #[.bool false, .int .i64 0, .int .i64 0]) ?_ 0 _ rfl; (with_reducible repeat (first | refine blk_drewN ?_ _ | refine blk_drew ?_ | refine blk_alloc ?_ _)); exact BK102.out) hg (Kd.R_ne HO_3.out BK102.out (by decide))); have n1_ := Aside0.mk (hb); have n2_ := Aside0.mk (ho); clear BK102; clear HB; clear HO_3; have BK102 := n0_; have HB := n1_; have HO105 := n2_; clear n0_ n1_ n2_; clear ho hb hg hat))
              go_roundg k1
              case measure => have := HK1.out; omega
              case rel => exact ⟨(y103), (wrap64 (x8_1 + 1)), (by first | rfl | (simp; done) | (simp [*]; done)), H', ⟨by have := HK1.out; omega⟩, ⟨by (with_reducible repeat (first | apply Kd.R_alloc | apply Kd.R_drewN | apply Kd.R_drew)); exact HO105.out⟩, ⟨by repeat (first | (with_reducible first | exact HB.out | apply below_alloc | apply pw_below_drewN | apply below_drew1 | refine below_set ?_ GE102.out) | exact HB.out)⟩⟩
            · rw [if_neg c5] at H
              exact absurd H (by simp)
          · rw [if_neg c4] at H
            exact absurd H (by simp)
        · rw [if_neg c3] at H
          exact absurd H (by simp)
      · rw [if_neg c2] at H
        have c2b0 : decide (x8_1 < (l0.length : Int)) = false := decide_eq_false c2
        clear c2
        obtain rfl := Option.some.inj H
        go_wp2
        go_ret
        exact ⟨_, by first | rfl | (simp [errW_none, errW_some] <;> rfl) | (simp [*, errW_none, errW_some] <;> rfl), by (with_reducible repeat (first | apply Kd.R_alloc | apply Kd.R_drewN | apply Kd.R_drew)); exact HO_3.out, by repeat (first | (with_reducible first | exact HB.out | apply below_alloc | apply pw_below_drewN | apply below_drew1) | exact HB.out)⟩
end Go.Proofs.YtgdbeiadlgkedaaGreatDoor.PFnWindowOne
set_option linter.unusedVariables false
set_option linter.unusedSimpArgs false
namespace Go.Proofs.YtgdbeiadlgkedaaGreatDoor
open Go.RowKit PFnWindowOne Go.Proofs.YtgdbeiadlgkedaaGreatDoorW.PrintWords Go.Proofs.YtgdbeiadlgkedaaGreatDoorW.PrintLast Go.Proofs.YtgdbeiadlgkedaaGreatDoorW.PrintMore
theorem xor_sign (n : Int) (h0 : -9223372036854775808 ≤ n) (h1 : n ≤ 9223372036854775807) : Go.bits .xor .u64 (u64of n : Int) 9223372036854775808 = ((n + 9223372036854775808).toNat : Int) := by
  have hl := u64of_lt n
  have h := bits_xor_u64_nat (u64of n) 9223372036854775808 hl (by decide)
  have e : ((9223372036854775808 : Nat) : Int) = 9223372036854775808 := rfl
  rw [e] at h
  rw [h]
  have hm : (u64of n ^^^ 9223372036854775808) % 2 ^ 63 = u64of n % 2 ^ 63 := by rw [Nat.xor_mod_two_pow]; simp
  have hd : (u64of n ^^^ 9223372036854775808) / 2 ^ 63 = (u64of n / 2 ^ 63) ^^^ 1 := by rw [Nat.xor_div_two_pow]
  have e2 : (2 : Nat) ^ 63 = 9223372036854775808 := by decide
  rw [e2] at hm hd
  have hx : u64of n = (n % 18446744073709551616).toNat := rfl
  rcases (show u64of n / 9223372036854775808 = 0 ∨ u64of n / 9223372036854775808 = 1 by omega) with hq | hq
  · rw [hq] at hd
    have : (0 : Nat) ^^^ 1 = 1 := by decide
    rw [this] at hd
    omega
  · rw [hq] at hd
    have : (1 : Nat) ^^^ 1 = 0 := by decide
    rw [this] at hd
    omega
end Go.Proofs.YtgdbeiadlgkedaaGreatDoor
set_option linter.unusedVariables false
set_option linter.unusedSimpArgs false
namespace Go.Proofs.YtgdbeiadlgkedaaGreatDoor
open Go.RowKit PFnWindowsRead Go.Proofs.YtgdbeiadlgkedaaGreatDoorW.PrintWords Go.Proofs.YtgdbeiadlgkedaaGreatDoorW.PrintLast Go.Proofs.YtgdbeiadlgkedaaGreatDoorW.PrintMore
theorem get_at (s : ByteArray) (i : Nat) (c : UInt8) (r : List UInt8) (h : s.data.toList.drop i = c :: r) : ∀ hm : i < s.size, s[i]'hm = c := by
  intro hm
  have h1 : s.data.toList[i]? = some c := by
    have := congrArg (fun l => l[0]?) h
    simpa [List.getElem?_drop] using this
  obtain ⟨h3, h4⟩ := List.getElem?_eq_some_iff.1 h1
  rw [← h4]; rfl
def cvT (R : Option (Nat × Nat)) : Int × Int × Int := match R with
  | some (v, k) => ((v : Nat), (k : Nat), 0)
  | none => (0, 0, 1)
theorem bt_cons (s : ByteArray) (i : Nat) (c : UInt8) (r : List UInt8) (h : s.data.toList.drop i = c :: r) : bt s (i : Int) = (c.toNat : Int) ∧ i < s.size := by
  have hl : i < s.size := by
    have := congrArg List.length h
    simp only [List.length_drop, Array.length_toList, List.length_cons] at this
    show i < s.data.size
    omega
  refine ⟨?_, hl⟩
  unfold bt
  rw [dif_pos (by simpa using hl)]
  have := get_at s i c r h hl
  simp only [Int.toNat_natCast, this]
theorem cvr_j1 (s : ByteArray) (N : Nat) (hN : s.size = N) (hN32 : N ≤ 4294967296) (i z k : Nat) (c : UInt8) (rest : List UInt8) (hcr : s.data.toList.drop i = c :: rest) (hi : i ≤ 9) (hz : z < 2 ^ (7 * i)) (hb : ¬ (9 < i ∨ (i = 9 ∧ 1 < c.toNat)))
    (hk : ∀ V : Nat, ¬ c.toNat < 128 → i + 1 ≤ 9 → V < 2 ^ (7 * (i + 1)) → spec_CodVarRead.l0 k s (V : Int) (N : Int) ((i + 1 : Nat) : Int) = some (cvT (vrd (i + 1) V rest))) :
    spec_CodVarRead.j1 (k + 1) s (z : Int) (i : Int) (N : Int) (i : Int) false = some (cvT (vrd i z (c :: rest))) := by
  obtain ⟨hc, hlt⟩ := bt_cons s i c rest hcr
  have hc256 := c.toNat_lt
  rw [spec_CodVarRead.j1, if_neg (by decide), if_pos (by omega), if_pos (by omega)]
  have hw : wrap64 (7 * (i : Int)) = ((7 * i : Nat) : Int) := by unfold wrap64; omega
  have hw1 : wrap64 ((i : Int) + 1) = ((i + 1 : Nat) : Int) := by unfold wrap64; omega
  rw [hw, hw1, if_pos (by omega), hc]
  have ha : Go.bits .and .u8 (c.toNat : Int) 127 = ((c.toNat % 128 : Nat) : Int) := u8_and127 _ hc256
  have hs : shl .u64 (IntKind.u64.wrap ((c.toNat % 128 : Nat) : Int)) ((7 * i : Nat) : Int) = IntKind.u64.wrap (((c.toNat % 128 : Nat) : Int) * 2 ^ (7 * i)) := by
    unfold shl
    rw [show IntKind.u64.wrap ((c.toNat % 128 : Nat) : Int) = ((c.toNat % 128 : Nat) : Int) by rw [IntKind.wrap_u64]; omega]
    have e : min (((7 * i : Nat) : Int)).toNat IntKind.u64.bits = 7 * i := by
      have : IntKind.u64.bits = 64 := rfl
      rw [this]; omega
    rw [e]
  have hbo : c.toNat % 128 * 2 ^ (7 * i) < 18446744073709551616 := by
    by_cases h9 : i = 9
    · subst h9
      have e : (2 : Nat) ^ (7 * 9) = 9223372036854775808 := by decide
      have : c.toNat % 128 ≤ 1 := by omega
      have := Nat.mul_le_mul_right (2 ^ (7 * 9)) this
      omega
    · exact mul_pow_lt _ _ (by omega) (by omega)
  have ho := orv z (c.toNat % 128) (7 * i) hz (by omega) hbo
  rw [ha, hs, ho]
  by_cases h128 : c.toNat < 128
  · rw [if_pos (by omega), vrd_end hb h128]
    simp only [cvT]
    rw [Nat.mod_eq_of_lt h128]
  · rw [if_neg (by omega), vrd_on hb h128]
    have h9 : i ≠ 9 := by intro e; apply hb; right; omega
    refine hk _ h128 (by omega) ?_
    rw [pow7]
    have : c.toNat % 128 * 2 ^ (7 * i) ≤ 127 * 2 ^ (7 * i) := Nat.mul_le_mul_right _ (by omega)
    omega
theorem cvr_l0 (s : ByteArray) (N : Nat) (hN : s.size = N) (hN32 : N ≤ 4294967296) : ∀ (d i z k : Nat), i + d = N → i ≤ 9 → z < 2 ^ (7 * i) → 2 * d + 2 ≤ k → spec_CodVarRead.l0 k s (z : Int) (N : Int) (i : Int) = some (cvT (vrd i z (s.data.toList.drop i))) := by
  intro d
  induction d with
  | zero =>
    intro i z k hd hi hz hk
    obtain ⟨k, rfl⟩ : ∃ k', k = k' + 1 := ⟨k - 1, by omega⟩
    rw [spec_CodVarRead.l0, if_neg (by omega), List.drop_eq_nil_of_le (by rw [Array.length_toList]; show s.size ≤ i; omega)]
    rfl
  | succ d ih =>
    intro i z k hd hi hz hk
    obtain ⟨k, rfl⟩ : ∃ k', k = k' + 2 := ⟨k - 2, by omega⟩
    obtain ⟨c, rest, hcr⟩ : ∃ c rest, s.data.toList.drop i = c :: rest := ⟨_, _, List.drop_eq_getElem_cons (by rw [Array.length_toList]; show i < s.size; omega)⟩
    obtain ⟨hc, hlt⟩ := bt_cons s i c rest hcr
    have hdr : s.data.toList.drop (i + 1) = rest := by rw [← List.drop_drop, hcr]; rfl
    have hJ := fun hb => cvr_j1 s N hN hN32 i z k c rest hcr hi hz hb (fun V _ h9 hV => by rw [← hdr]; exact ih (i + 1) V k (by omega) h9 hV (by omega))
    rw [spec_CodVarRead.l0, if_pos (by omega), hcr]
    by_cases h9 : i = 9
    · rw [if_pos (by omega), if_pos (by omega), if_pos (by omega), hc]
      by_cases h1 : 1 < c.toNat
      · rw [if_pos (by omega), spec_CodVarRead.j1, if_pos rfl, vrd_bad (.inr ⟨h9, h1⟩)]
        rfl
      · rw [if_neg (by omega), show decide ((i : Int) > 9) = false by rw [decide_eq_false_iff_not]; omega]
        exact hJ (by omega)
    · rw [if_neg (by omega), show decide ((i : Int) > 9) = false by rw [decide_eq_false_iff_not]; omega]
      exact hJ (by omega)
theorem cvr_f (s : ByteArray) (hs : s.size ≤ 4294967296) (k : Nat) (hk : 2 * s.size + 2 ≤ k) : spec_CodVarRead.f k s = some (cvT (vrd 0 0 s.data.toList)) := by
  have := cvr_l0 s s.size rfl hs s.size 0 0 k (by omega) (by omega) (by decide) hk
  rw [List.drop_zero] at this
  exact this
theorem beNat_snoc (l : List UInt8) (x : UInt8) : Lib.beNat (l ++ [x]) = Lib.beNat l * 256 + x.toNat := by
  rw [Lib.beNat_eq, Lib.beNat_eq, List.reverse_append, List.reverse_singleton, List.singleton_append, Lib.leNat]; omega
theorem num_l0 (s : ByteArray) (z : Nat) (hz : z ≤ 8) (hs : z ≤ s.size) : ∀ (d i k : Nat), i + d = z → d + 1 ≤ k → spec_codNumber.l0 k s ((Lib.beNat (s.data.toList.take i) : Nat) : Int) (z : Int) (i : Int) = some (((Lib.beNat (s.data.toList.take z) : Nat) : Int), 0) := by
  intro d
  induction d with
  | zero =>
    intro i k hd hk
    obtain ⟨k, rfl⟩ : ∃ k', k = k' + 1 := ⟨k - 1, by omega⟩
    rw [spec_codNumber.l0, if_neg (by omega)]
    obtain rfl : i = z := by omega
    rfl
  | succ d ih =>
    intro i k hd hk
    obtain ⟨k, rfl⟩ : ∃ k', k = k' + 1 := ⟨k - 1, by omega⟩
    have hlt : i < s.data.toList.length := by rw [Array.length_toList]; show i < s.size; omega
    have hcr := List.drop_eq_getElem_cons hlt
    obtain ⟨hc, hl2⟩ := bt_cons s i _ _ hcr
    rw [spec_codNumber.l0, if_pos (by omega), if_pos (by omega), if_pos (by omega), hc]
    have hw1 : wrap64 ((i : Int) + 1) = ((i + 1 : Nat) : Int) := by unfold wrap64; omega
    rw [hw1]
    have hc256 := (s.data.toList[i]).toNat_lt
    have hL : (s.data.toList.take i).length = i := by rw [List.length_take]; omega
    have hb : Lib.beNat (s.data.toList.take i) < 256 ^ i := by
      have := beNat_lt (s.data.toList.take i); rwa [hL] at this
    have hp : 256 ^ i ≤ 256 ^ 7 := Nat.pow_le_pow_right (by omega) (by omega)
    have e7 : (256 : Nat) ^ 7 = 72057594037927936 := by decide
    have hn : Lib.beNat (s.data.toList.take (i + 1)) = Lib.beNat (s.data.toList.take i) * 256 + (s.data.toList[i]).toNat := by
      rw [List.take_succ_eq_append_getElem hlt, beNat_snoc]
    have e1 : IntKind.u64.wrap (((Lib.beNat (s.data.toList.take i) : Nat) : Int) * 256) = ((Lib.beNat (s.data.toList.take i) * 256 : Nat) : Int) := by rw [IntKind.wrap_u64]; omega
    have e2 : IntKind.u64.wrap ((s.data.toList[i]).toNat : Int) = ((s.data.toList[i]).toNat : Int) := by rw [IntKind.wrap_u64]; omega
    rw [e1, e2, bits_or_u64_nat _ _ (by omega) (by omega)]
    have e3 : Lib.beNat (s.data.toList.take i) * 256 ||| (s.data.toList[i]).toNat = Lib.beNat (s.data.toList.take (i + 1)) := by
      rw [hn]
      have := or_shl (s.data.toList[i]).toNat (Lib.beNat (s.data.toList.take i)) 8 hc256
      rw [show (2 : Nat) ^ 8 = 256 by decide] at this
      rw [Nat.or_comm, this, Nat.add_comm]
    rw [e3]
    exact ih (i + 1) k (by omega) (by omega)
theorem num_fk (s : ByteArray) (z k : Nat) (hk : 10 ≤ k) (hz : z ≤ 8) (hs : z ≤ s.size) : spec_codNumber.f k s (z : Int) = some (((Lib.beNat (s.data.toList.take z) : Nat) : Int), 0) := by
  unfold spec_codNumber.f
  rw [if_neg (by omega)]
  have := num_l0 s z hz hs z 0 k (by omega) (by omega)
  rw [List.take_zero] at this
  exact this
theorem num_badk (s : ByteArray) (z k : Nat) (hs : s.size < z) : spec_codNumber.f k s (z : Int) = some (0, 1) := by
  unfold spec_codNumber.f
  rw [if_pos (by omega)]
theorem xor_time (z : Nat) (hz : z < 18446744073709551616) : ∃ V : Nat, bits .xor .u64 (z : Int) 9223372036854775808 = (V : Int) ∧ wrap64 (V : Int) = wrap64 (wrap64 (z : Int) + -9223372036854775808) := by
  have hu : u64of (wrap64 (z : Int)) = z := by unfold u64of wrap64; omega
  have h := xor_sign (wrap64 (z : Int)) (by unfold wrap64; omega) (by unfold wrap64; omega)
  rw [hu] at h
  refine ⟨_, h, ?_⟩
  have : 0 ≤ wrap64 (z : Int) + 9223372036854775808 := by unfold wrap64; omega
  rw [Int.toNat_of_nonneg this]
  unfold wrap64; omega
end Go.Proofs.YtgdbeiadlgkedaaGreatDoor
set_option linter.unusedVariables false
set_option linter.unusedSimpArgs false
namespace Go.Proofs.YtgdbeiadlgkedaaGreatDoor
open Go.RowKit PFnWindowOne Go.Proofs.YtgdbeiadlgkedaaGreatDoorW.PrintWords Go.Proofs.YtgdbeiadlgkedaaGreatDoorW.PrintLast Go.Proofs.YtgdbeiadlgkedaaGreatDoorW.PrintMore
def D1 (w0 : World) (cs : Array Value) (T : TypeId) (w' : World) : Prop := w'.heap[w0.heap.size]? = some (.cells cs T (0, 0)) ∧ Below w0.heap.size w0 w'
theorem D1.step {w0 x y : World} {cs : Array Value} {T : TypeId} (h : D1 w0 cs T x) (hb : Below x.heap.size x y) : D1 w0 cs T y := ⟨blk_below h.1 hb, below_then h.2 h.2.size hb⟩
end Go.Proofs.YtgdbeiadlgkedaaGreatDoor
set_option linter.unusedVariables false
set_option linter.unusedSimpArgs false
namespace Go.Proofs.YtgdbeiadlgkedaaGreatDoor
open Go.RowKit
theorem ret_int {k : IntKind} {a b : Int} (h : a = b) : Ending.returned (.int k a) = .returned (.int k b) := by rw [h]
def mx (a b : Int) : Int := if a < b then b else a
def mn (a b : Int) : Int := if a < b then a else b
def nrm (t : Int) : Int := if t < -9223372036854775 then -9223372036854775 else if 9223372036854775 < t then 9223372036854775 else t
theorem nrm_mx (t : Int) : mn (mx t (-9223372036854775)) 9223372036854775 = nrm t := by
  unfold nrm mn mx
  split <;> split <;> (try split) <;> (try split) <;> omega
theorem max_any (a b : Int) (w : World) : Calls Tryz.prog 164 #[.int .i64 a, .int .i64 b] w fun e w' => e = .returned (.int .i64 (mx a b)) ∧ w = w' := by
  by_cases h : a < b
  · go_enter Tryz.func164, Tryz.ntmps164
    go_wp2
    go_ret
    exact ⟨ret_int (by unfold mx; rw [if_pos h]), rfl⟩
  · go_enter Tryz.func164, Tryz.ntmps164
    go_wp2
    go_ret
    exact ⟨ret_int (by unfold mx; rw [if_neg (by omega)]), rfl⟩
theorem min_any (a b : Int) (w : World) : Calls Tryz.prog 163 #[.int .i64 a, .int .i64 b] w fun e w' => e = .returned (.int .i64 (mn a b)) ∧ w = w' := by
  by_cases h : a < b
  · go_enter Tryz.func163, Tryz.ntmps163
    go_wp2
    go_ret
    exact ⟨ret_int (by unfold mn; rw [if_pos h]), rfl⟩
  · go_enter Tryz.func163, Tryz.ntmps163
    go_wp2
    go_ret
    exact ⟨ret_int (by unfold mn; rw [if_neg (by omega)]), rfl⟩
theorem norm_any (t : Int) (w : World) : Calls Tryz.prog 162 #[.int .i64 t] w fun e w' => e = .returned (.int .i64 (nrm t)) ∧ w = w' := by
  go_enter Tryz.func162, Tryz.ntmps162
  go_wp2_with (first | (go_at_call 164; refine (max_any _ _ _).mono ?_; rintro e w' ⟨rfl, rfl⟩) | (go_at_call 163; refine (min_any _ _ _).mono ?_; rintro e w' ⟨rfl, rfl⟩))
  go_ret
  exact ⟨ret_int (nrm_mx t), rfl⟩
theorem fromMs_any (t : Int) (w : World) : Calls Tryz.prog 161 #[.int .i64 t] w fun e w' => e = .returned (.int .i64 (nrm t)) ∧ w = w' := by
  go_enter Tryz.func161, Tryz.ntmps161
  go_wp2_with (go_at_call 162; refine (norm_any _ _).mono ?_; rintro e w' ⟨rfl, rfl⟩)
  go_ret
  exact ⟨rfl, rfl⟩
theorem decVar_okZ (B : Nat) (pe pl : Addr) (r g : Nat) (l : List UInt8) (i : Nat) (w : World) (h : Rd r g l i w) (he : Env B pe pl w) (hBr : B ≤ r) (v k : Nat) (hR : vrd 0 0 (l.drop i) = some (v, k)) :
    Calls Tryz.prog 92 #[rdI r] w fun e w' => e = .returned (.tuple #[.int .u64 (v : Nat), .nilIface]) ∧ w.grownBy w' (some r) ∧ Rd r g l (i + k) w' :=
  (decVar_any B pe pl r g l i w h he hBr _ hR).mono fun e w' ⟨hg, hh⟩ => by
    rcases hh with ⟨v', k', e1, e2, e3⟩ | ⟨e1, _⟩
    · cases e1; exact ⟨e2, hg, e3⟩
    · cases e1
theorem decVar_badZ (B : Nat) (pe pl : Addr) (r g : Nat) (l : List UInt8) (i : Nat) (w : World) (h : Rd r g l i w) (he : Env B pe pl w) (hBr : B ≤ r) (hR : vrd 0 0 (l.drop i) = none) :
    Calls Tryz.prog 92 #[rdI r] w fun e w' => ∃ ev, e = .returned (.tuple #[.int .u64 0, ev]) ∧ Fell r g l w w' ev :=
  (decVar_any B pe pl r g l i w h he hBr _ hR).mono fun e w' ⟨hg, hh⟩ => by
    rcases hh with ⟨v', k', e1, _⟩ | ⟨_, ev, i', e2, e3, e4⟩
    · cases e1
    · exact ⟨ev, e2, hg, e3, i', e4⟩
set_option maxHeartbeats 4000000 in
set_option maxRecDepth 100000 in
theorem decSingle_ok (B : Nat) (pe pl : Addr) (a : Option Addr) (r g : Nat) (l : List UInt8) (i : Nat) (w : World) (h : Rd r g l i w) (he : Env B pe pl w) (hBr : B ≤ r) (hB : B ≤ w.heap.size) (hi : i + 8 ≤ l.length) (T : Int) (hT : wrap64 (wrap64 (Lib.beNat ((l.drop i).take 8) : Nat) + -9223372036854775808) = T) (v k : Nat) (hv : vrd 0 0 (l.drop (i + 8)) = some (v, k)) :
    Calls Tryz.prog 160 #[.pointer a, rdI r] w fun x w' => x = .returned (.tuple #[winI (nrm (wrap64 (T - wrap64 (v : Nat)))) T, .nilIface]) ∧ w.grownBy w' (some r) ∧ Rd r g l (i + 8 + k) w' := by
  have hC := decTime_ok r g l i w h hi
  rw [hT] at hC
  have HC := Lib.hid hC
  have HV := Lib.hid hv
  have HE := Lib.hid (And.intro he (And.intro hBr hB))
  obtain ⟨D, hD⟩ : ∃ D, Hid (wrap64 (v : Int) = D) := ⟨_, Lib.hid rfl⟩
  obtain ⟨S, hS⟩ : ∃ S, Hid (wrap64 (T - D) = S) := ⟨_, Lib.hid rfl⟩
  have q1 : wrap64 (v : Int) = D := hD.out
  have q2 : IntKind.i64.wrap (v : Int) = D := (IntWalk.i64_left _).trans hD.out
  have q3 : wrap64 (T - D) = S := hS.out
  have q4 : IntKind.i64.wrap (T - D) = S := (IntWalk.i64_left _).trans hS.out
  rw [q1, q3]
  clear h he hBr hB hi hT hC hv
  go_enter Tryz.func160, Tryz.ntmps160
  go_wp2_with (first
    | (go_at_call 83; go_loud (refine HC.out.mono ?_; rintro e_ w1 ⟨rfl, hg, hr⟩; have H1 := Lib.hid (And.intro hg hr); clear hg hr))
    | (go_at_call 92; go_loud (refine (decVar_okZ B pe pl r g l (i + 8) w1 H1.out.2 (HE.out.1.below (grown_below H1.out.1 HE.out.2.2 HE.out.2.1)) HE.out.2.1 v k HV.out).mono ?_; rintro e_ w2 ⟨rfl, hg, hr⟩; have H2 := Lib.hid (And.intro (grown_trans H1.out.1 hg) hr); clear hg hr))
    | (go_at_call 103; refine (millis_any _ _).mono ?_; rintro e_ w3 ⟨rfl, rfl⟩)
    | (go_at_call 161; refine (fromMs_any _ _).mono ?_; rintro e_ w3 ⟨rfl, rfl⟩))
  go_ret2
  exact ⟨rfl, H2.out.1, H2.out.2⟩
end Go.Proofs.YtgdbeiadlgkedaaGreatDoor
set_option linter.unusedVariables false
set_option linter.unusedSimpArgs false
namespace Go.Proofs.YtgdbeiadlgkedaaGreatDoor
open Go.RowKit
set_option maxHeartbeats 4000000 in
set_option maxRecDepth 100000 in
theorem backWin_1 (s e : Int) (w : World) : Calls Tryz.prog 45 #[winI s e] w fun x w' => x = .returned (.agg #[.bool false, .int .i64 s, .int .i64 e]) ∧ Below w.heap.size w w' := by
  have ta := taT s e
  go_enter Tryz.func45, Tryz.ntmps45
  go_wp2
  have hz := blk_alloc' (o' := .cells #[.int .i64 s, .int .i64 e] 194 (0, 0)) (heap_alloc_new w (.cells #[.bool false, .int .i64 s, .int .i64 e] 23))
  have HB := Lib.hid (show Below w.heap.size w ((w.alloc (.cells #[.bool false, .int .i64 s, .int .i64 e] 23)).alloc (.cells #[.int .i64 s, .int .i64 e] 194)) from ((Below.refl _ w).alloc (Nat.le_refl _) _).alloc (by rw [World.size_alloc]; omega) _)
  generalize (w.alloc (.cells #[.bool false, .int .i64 s, .int .i64 e] 23)).alloc (.cells #[.int .i64 s, .int .i64 e] 194) = X at hz HB ⊢
  have c0 : X.cell? ⟨w.heap.size, 0, none⟩ = some (.bool false) := (blk_cell hz 0).trans rfl
  have c1 : X.cell? ⟨w.heap.size, 1, none⟩ = some (.int .i64 s) := (blk_cell hz 1).trans rfl
  have c2 : X.cell? ⟨w.heap.size, 2, none⟩ = some (.int .i64 e) := (blk_cell hz 2).trans rfl
  exact bodyPost_ret (v := .agg #[.bool false, .int .i64 s, .int .i64 e]) (by simp [results, Tryz.results45, go_sem, c0, c1, c2]; try rfl) rfl ⟨rfl, HB.out⟩
set_option maxHeartbeats 4000000 in
set_option maxRecDepth 100000 in
theorem backWin_0 (w : World) : Calls Tryz.prog 45 #[.iface 192 (.agg #[])] w fun x w' => x = .returned (.agg #[.bool true, .int .i64 0, .int .i64 0]) ∧ Below w.heap.size w w' := by
  have ta := taG
  go_enter Tryz.func45, Tryz.ntmps45
  go_wp2
  have hz := blk_alloc' (o' := .cells #[.int .i64 0, .int .i64 0] 194 (0, 0)) (heap_alloc_new w (.cells #[.bool true, .int .i64 0, .int .i64 0] 23))
  have HB := Lib.hid (show Below w.heap.size w ((w.alloc (.cells #[.bool true, .int .i64 0, .int .i64 0] 23)).alloc (.cells #[.int .i64 0, .int .i64 0] 194)) from ((Below.refl _ w).alloc (Nat.le_refl _) _).alloc (by rw [World.size_alloc]; omega) _)
  generalize (w.alloc (.cells #[.bool true, .int .i64 0, .int .i64 0] 23)).alloc (.cells #[.int .i64 0, .int .i64 0] 194) = X at hz HB ⊢
  have c0 : X.cell? ⟨w.heap.size, 0, none⟩ = some (.bool true) := (blk_cell hz 0).trans rfl
  have c1 : X.cell? ⟨w.heap.size, 1, none⟩ = some (.int .i64 0) := (blk_cell hz 1).trans rfl
  have c2 : X.cell? ⟨w.heap.size, 2, none⟩ = some (.int .i64 0) := (blk_cell hz 2).trans rfl
  exact bodyPost_ret (v := .agg #[.bool true, .int .i64 0, .int .i64 0]) (by simp [results, Tryz.results45, go_sem, c0, c1, c2]; try rfl) rfl ⟨rfl, HB.out⟩
end Go.Proofs.YtgdbeiadlgkedaaGreatDoor
set_option linter.unusedVariables false
set_option linter.unusedSimpArgs false
namespace Go.Proofs.YtgdbeiadlgkedaaGreatDoor
open Go.RowKit
theorem D1.grown {w x y : World} {cs : Array Value} {T : TypeId} {r : Nat} (h : D1 w cs T x) (hg : x.grownBy y (some r)) (hr : w.heap.size < r) : D1 w cs T y :=
  ⟨(hg.block _ (blk_lt h.1) (by intro e; cases e; omega)).trans h.1, h.2.trans (grown_below hg h.2.size (by omega))⟩
theorem D1.drewN {w x : World} {cs : Array Value} {T : TypeId} (h : D1 w cs T x) (n : Nat) : D1 w cs T (x.drewN n) := ⟨h.1, below_drewN h.2 n⟩
end Go.Proofs.YtgdbeiadlgkedaaGreatDoor
set_option linter.unusedVariables false
set_option linter.unusedSimpArgs false
namespace Go.Proofs.YtgdbeiadlgkedaaGreatDoor
open Go.RowKit PFnWindowOne Go.Proofs.YtgdbeiadlgkedaaGreatDoorW.PrintWords Go.Proofs.YtgdbeiadlgkedaaGreatDoorW.PrintLast Go.Proofs.YtgdbeiadlgkedaaGreatDoorW.PrintMore
def toS (x : S23) : S32 := ⟨x.f0, x.f1, x.f2⟩
theorem wrap_up (i : Nat) (h : i < 1000000) : wrap64 ((i : Int) + 1) = ((i + 1 : Nat) : Int) := by unfold wrap64; omega
theorem rd23_at (l : List S23) (i : Nat) (h : i < l.length) : rd_T23 l (i : Int) = l[i] := by unfold rd_T23; simp [List.getD_eq_getElem?_getD, h]
theorem rd32_at (l : List S32) (i : Nat) (h : i < l.length) : rd_T32 l (i : Int) = l[i] := by unfold rd_T32; simp [List.getD_eq_getElem?_getD, h]
theorem spanOf_l (l : List S23) (hl : l.length ≤ 100000) : ∀ (m i : Nat) (x3 : List S32), i + m = l.length → x3.length = i → laws_codSpanOf.l0 (m + 1) x3 l (l.length : Int) (i : Int) = some (x3 ++ (l.drop i).map toS)
  | 0, i, x3, h, _ => by
    rw [laws_codSpanOf.l0, if_neg (by omega), List.drop_eq_nil_of_le (by omega)]; simp
  | m + 1, i, x3, h, hx => by
    have hlt : i < l.length := by omega
    rw [laws_codSpanOf.l0, if_pos (by omega), if_pos (by omega), if_pos (by omega), if_pos (by omega), wrap_up i (by omega), spanOf_l l hl m (i + 1) _ (by omega) (by simp [hx]), List.drop_eq_getElem_cons hlt, rd23_at l i hlt, List.map_cons, List.append_assoc]
    rfl
theorem spanOf_f (l : List S23) (hl : l.length ≤ 100000) : laws_codSpanOf.f (l.length + 1) l = some (l.map toS) := by
  unfold laws_codSpanOf.f
  have := spanOf_l l hl l.length 0 [] (by omega) rfl
  simpa using this
end Go.Proofs.YtgdbeiadlgkedaaGreatDoor
set_option linter.unusedVariables false
set_option linter.unusedSimpArgs false
namespace Go.Proofs.YtgdbeiadlgkedaaGreatDoor
open Go.RowKit PFnWindowOne Go.Proofs.YtgdbeiadlgkedaaGreatDoorW.PrintWords
def ifv (x : S23) : Value := if x.f0 then .iface 192 (.agg #[]) else .iface 194 (.agg #[.int .i64 x.f1, .int .i64 x.f2])
theorem ifv_one (x : S23) : (ifv x).oneCell' = true := by unfold ifv; split <;> rfl
theorem ifv_iface (x : S23) : ∃ t v, ifv x = .iface t v := by unfold ifv; split <;> exact ⟨_, _, rfl⟩
def kIf : Kd S23 := Kd.scalar ifv ifv_one
def rdN (xs : List S23) (i : Nat) : S23 := xs.getD i z23
theorem rdN_at (l : List S23) (i : Nat) (h : i < l.length) : rdN l i = l[i] := by unfold rdN; simp [List.getD_eq_getElem?_getD, h]
theorem atIf {w : World} {A : Option Addr} {n : Nat} {xs : List S23} (h : Kd.C kIf w A n xs) (i : Nat) (h1 : i < n) : ∃ ad, A = some ad ∧ w.cell? (ad.add i) = some (ifv (rdN xs i)) := by
  obtain ⟨ad, c, e, _, hK, hc0⟩ := Kd.C_get h z23 (i : Int) (by omega) (by omega)
  have hc : ∀ j u, c[j]? = some u → w.cell? (ad.add (i * 1 + j)) = some u := hc0
  obtain rfl : c = [ifv (rdN xs i)] := hK
  exact ⟨ad, e, by have := hc 0 _ rfl; simpa using this⟩
theorem take_succ (l : List S23) (k : Nat) (h : k < l.length) : l.take (k + 1) = l.take k ++ [rdN l k] := by
  rw [List.take_succ_eq_append_getElem h, rdN_at l k h]
theorem info23 : (Tryz.prog.info? 23).map (fun i => (i.zero, i.size, i.bytes)) = some (some (.agg #[(.bool false), (.int .i64 0), (.int .i64 0)]), 3, 24) := by kernel_rfl
def nz (x : S23) : S23 := if x.f0 then ⟨true, 0, 0⟩ else x
theorem backWin_any (x : S23) (w : World) : Calls Tryz.prog 45 #[ifv x] w fun e w' => e = .returned (.agg #[.bool (nz x).f0, .int .i64 (nz x).f1, .int .i64 (nz x).f2]) ∧ Below w.heap.size w w' := by
  obtain ⟨g, s, e⟩ := x
  cases g
  · exact backWin_1 s e w
  · exact backWin_0 w
theorem take_map_nz (l : List S23) (k : Nat) (h : k < l.length) : (l.take (k + 1)).map nz = (l.take k).map nz ++ [nz (rdN l k)] := by rw [take_succ l k h]; simp
set_option maxHeartbeats 1000000 in
set_option maxRecDepth 100000 in
theorem backWins_any (A0 : Option Addr) (c0 : Nat) (l : List S23) (w : World) (hr0 : Kd.C kIf w A0 l.length l) (hc0 : l.length ≤ c0) (hl : l.length * 24 ≤ 140737488351232) :
    Calls Tryz.prog 50 #[.slice A0 l.length c0] w fun e w' => ∃ v : Value, e = .returned v ∧ Kd.R k23 23 w' w.heap.size (fun _ => True) v (l.map nz) ∧ Below w.heap.size w w' := by
  have HR0 := Aside0.mk hr0
  have HC0 := Aside0.mk hc0
  clear hr0 hc0
  have HB := Aside0.mk (Below.refl w.heap.size w)
  go_enter Tryz.func50, Tryz.ntmps50
  go_wp2
  go_loopg [3, 8] l.length (fun kq v3 v8 w' => ∃ k : Nat, k ≤ l.length ∧ Aside0 (kq = l.length - k) ∧ v8 = .int .i64 k ∧ Aside0 (Kd.R k23 23 w' w.heap.size (fun _ => True) v3 ((l.take k).map nz)) ∧ Aside0 (Below w.heap.size w w'))
  case atStart => exact ⟨0, Nat.zero_le _, ⟨by simp⟩, rfl, ⟨Kd.R_nil _ _ _ _ _⟩, HB⟩
  case round =>
    clear HB
    obtain ⟨k, hk, hq, rfl, HO, HB⟩ := hrel
    by_cases hlt : k < l.length
    · obtain ⟨ad, e104, hx0⟩ := atIf HR0.out k hlt
      cases e104
      replace hx0 := (HB.out.cell (World.block_lt_of_cell? w _ hx0)).trans hx0
      have hts := Aside0.mk (take_map_nz l k hlt)
      have htl := Aside0.mk (show ((l.take k).map nz).length = k by rw [List.length_map, List.length_take_of_le hk])
      go_wp2_with (first | (go_at_call 45; (with_reducible refine (backWin_any (rdN l k) _).mono ?_); rintro e w7 ⟨rfl, hb7⟩; have n1_ := Aside0.mk (below_then (by repeat (first | (with_reducible first | exact HB.out | apply below_alloc | apply pw_below_drewN | apply below_drew1) | exact HB.out)) (below_size (by repeat (first | (with_reducible first | exact HB.out | apply below_alloc | apply pw_below_drewN | apply below_drew1) | exact HB.out))) hb7); have n2_ := Aside0.mk (Kd.R_below (by (with_reducible repeat (first | apply Kd.R_alloc | apply Kd.R_drewN | apply Kd.R_drew)); exact HO.out) hb7); clear HB HO hb7; have HB := n1_; have HO := n2_; clear n1_ n2_) | ((with_reducible refine gate_builtin (b := .append) (xs := #[.tmp 12, .tmp 15]) rfl ?_); at_builtin; refine Kd.R_append k23 (w0 := w) w.heap.size rfl (.tmp 12) (.tmp 15) 25 23 (.agg #[(.bool false), (.int .i64 0), (.int .i64 0)]) 24 rfl Tryz.underlying25 info23 rfl (by decide) (by omega) u3 ((l.take k).map nz) (nz (rdN l k)) [.bool (nz (rdN l k)).f0, .int .i64 (nz (rdN l k)).f1, .int .i64 (nz (rdN l k)).f2] (fun _ => True) (fun _ => False) rfl (by first | (go_simp; done) | (go_simp; rfl)) ?aP (fun _ hk => hk.elim) ?aF ?aO ?aB ?aS ?aL ?_; (case aP => exact k23_mkM _ _ _ _); (case aB => exact (by repeat (first | (with_reducible first | exact HB.out | apply below_alloc | apply pw_below_drewN | apply below_drew1) | exact HB.out))); (case aF => exact (fun _ _ => trivial)); (case aO => exact (by (with_reducible repeat (first | apply Kd.R_alloc | apply Kd.R_drewN | apply Kd.R_drew)); exact HO.out)); (case aS => exact (below_size (by repeat (first | (with_reducible first | exact HB.out | apply below_alloc | apply pw_below_drewN | apply below_drew1) | exact HB.out)))); (case aL => have := htl.out; omega); intro v107 w8 ho hb hg hat; rw [← hts.out] at ho; have n1_ := Aside0.mk (hb); have n2_ := Aside0.mk (ho); clear HB; clear HO; have HB := n1_; have HO := n2_; clear n1_ n2_; clear ho hb hg hat))
      go_roundg (l.length - (k + 1))
      case measure => have := hq.out; omega
      case rel => exact ⟨k + 1, by omega, ⟨rfl⟩, by go_num, HO, HB⟩
    · have hkl : Aside0 (k = l.length) := ⟨by omega⟩
      go_wp2
      go_ret
      have HO' := HO.out
      rw [hkl.out, List.take_length] at HO'
      exact ⟨_, rfl, HO', HB.out⟩
section
variable {P : Program} {ops : Array Oper} {rest : List Oper} {o : Oper} {a : Act} {Q : Exit → Act → World → Prop}
end
end Go.Proofs.YtgdbeiadlgkedaaGreatDoor
