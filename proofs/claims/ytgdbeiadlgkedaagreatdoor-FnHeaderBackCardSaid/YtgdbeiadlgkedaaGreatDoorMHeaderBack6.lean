/- Contracts and plain laws, several texts in one. -/
import Derived.Test.YtgdbeiadlgkedaaGreatDoorMHeaderBack3
import Derived.Test.YtgdbeiadlgkedaaGreatDoorMHeaderBack4
import Derived.Test.YtgdbeiadlgkedaaGreatDoorMHeaderBack5
import Derived.Test.YtgdbeiadlgkedaaGreatDoorProg
import Derived.Below
import Derived.Deep.Draws
import Derived.Deep.AppendLies
import Derived.Maps.AppendAt
import Derived.OwnWalk
import Derived.Laws.BytesArg
import Derived.Laws.MakeOwn
import Derived.Laws.OwnMore
import Derived.Deep.OwnRows
import Derived.Tactics
import Derived.Lib.ConvBytes
import Derived.Laws.Slices
import Derived.WalkKit
import Derived.KernelRfl
import Derived.RowKit3
import Derived.Deep.LoopGhost
import Derived.Deep.QuietTactic
import Derived.BigQuiet
import Derived.WideLaws
import Derived.Deep.DeepCutAuto
import Derived.Deep.CutBlock
import Derived.Deep.RegionHeld3
import Derived.Laws.Rows
import Derived.Lib.AppendStr
import Derived.ArgAppend
import Derived.Laws.IdiomCopy
import Derived.OrdersHeld
import Derived.Laws.BitsLemmas
import Derived.RowKit
import Derived.Lib.Varint
namespace Go.Proofs.YtgdbeiadlgkedaaGreatDoor.PFnHeader
open Go.RowKit Go.Proofs.YtgdbeiadlgkedaaGreatDoorW.PrintWords Go.Proofs.YtgdbeiadlgkedaaGreatDoorW.PrintLast Go.Proofs.YtgdbeiadlgkedaaGreatDoorW.PrintMore
attribute [local go_sem] max2_int min2_int max_two min_two max_three min_three max_four min_four
set_option linter.unusedVariables false
set_option linter.unusedSimpArgs false
def errW : Option Int → Value
  | none => .nilIface
  | some c => .iface 0 (.int .i64 c)
theorem errW_none : errW none = .nilIface := rfl
theorem errW_some (c : Int) : errW (some c) = .iface 0 (.int .i64 c) := rfl
theorem info32 : (Tryz.prog.info? 32).map (fun i => (i.zero, i.size, i.bytes)) = some (some (.agg #[(.bool false), (.int .i64 0), (.int .i64 0)]), 3, 24) := by kernel_rfl
structure S23 where
  f0 : Bool
  f1 : Int
  f2 : Int
def z23 : S23 := ⟨false, (0 : Int), (0 : Int)⟩
def k23 : Kd S23 := Kd.iso (Kd.pair Kd.bool (Kd.pair (Kd.int .i64) (Kd.int .i64))) (fun x : S23 => (x.f0, x.f1, x.f2))
theorem k23_open {w : World} {x : S23} {cs : List Value} (h : k23.K w x cs) : cs = [.bool x.f0, .int .i64 x.f1, .int .i64 x.f2] := by
  obtain ⟨_, _, rfl, rfl, ⟨_, _, rfl, rfl, rfl⟩⟩ := h
  exact rfl
theorem k23_mkM (w : World) (base : Nat) (ok : Nat → Prop) (x : S23)  : k23.M w base ok x [.bool x.f0, .int .i64 x.f1, .int .i64 x.f2] := ⟨[.bool x.f0], [.int .i64 x.f1, .int .i64 x.f2], rfl, rfl, ⟨[.int .i64 x.f1], [.int .i64 x.f2], rfl, rfl, rfl⟩⟩
def rd_T23 (xs : List S23) (i : Int) : S23 := xs.getD i.toNat z23
theorem at_T23 {w : World} {A : Option Addr} {n : Nat} {xs : List S23} (h : Kd.C k23 w A n xs) (i : Int) (h0 : 0 ≤ i) (h1 : i < n) : ∃ ad , A = some ad ∧ w.cell? (ad.add (i.toNat * 3)) = some (.bool (rd_T23 xs i).f0) ∧ w.cell? ⟨(ad.add (i.toNat * 3)).block, (ad.add (i.toNat * 3)).off + 1, none⟩ = some (.int .i64 (rd_T23 xs i).f1) ∧ w.cell? ⟨(ad.add (i.toNat * 3)).block, (ad.add (i.toNat * 3)).off + 2, none⟩ = some (.int .i64 (rd_T23 xs i).f2) := by
  obtain ⟨ad, c, e, _, hK, hc0⟩ := Kd.C_get h z23 i h0 h1
  have hc : ∀ j u, c[j]? = some u → w.cell? (ad.add (i.toNat * 3 + j)) = some u := hc0
  obtain rfl := k23_open hK
  exact ⟨ad, e, hc 0 _ rfl, by rw [← add_field _ _ 1 (by omega)]; exact hc 1 _ rfl, by rw [← add_field _ _ 2 (by omega)]; exact hc 2 _ rfl⟩
structure S32 where
  f0 : Bool
  f1 : Int
  f2 : Int
def z32 : S32 := ⟨false, (0 : Int), (0 : Int)⟩
def k32 : Kd S32 := Kd.iso (Kd.pair Kd.bool (Kd.pair (Kd.int .i64) (Kd.int .i64))) (fun x : S32 => (x.f0, x.f1, x.f2))
theorem k32_open {w : World} {x : S32} {cs : List Value} (h : k32.K w x cs) : cs = [.bool x.f0, .int .i64 x.f1, .int .i64 x.f2] := by
  obtain ⟨_, _, rfl, rfl, ⟨_, _, rfl, rfl, rfl⟩⟩ := h
  exact rfl
theorem k32_mk (w : World) (x : S32)  : k32.K w x [.bool x.f0, .int .i64 x.f1, .int .i64 x.f2] := ⟨[.bool x.f0], [.int .i64 x.f1, .int .i64 x.f2], rfl, rfl, ⟨[.int .i64 x.f1], [.int .i64 x.f2], rfl, rfl, rfl⟩⟩
theorem k32_mkM (w : World) (base : Nat) (ok : Nat → Prop) (x : S32)  : k32.M w base ok x [.bool x.f0, .int .i64 x.f1, .int .i64 x.f2] := ⟨[.bool x.f0], [.int .i64 x.f1, .int .i64 x.f2], rfl, rfl, ⟨[.int .i64 x.f1], [.int .i64 x.f2], rfl, rfl, rfl⟩⟩
def rd_T32 (xs : List S32) (i : Int) : S32 := xs.getD i.toNat z32
theorem at_T32 {w : World} {A : Option Addr} {n : Nat} {xs : List S32} (h : Kd.C k32 w A n xs) (i : Int) (h0 : 0 ≤ i) (h1 : i < n) : ∃ ad , A = some ad ∧ w.cell? (ad.add (i.toNat * 3)) = some (.bool (rd_T32 xs i).f0) ∧ w.cell? ⟨(ad.add (i.toNat * 3)).block, (ad.add (i.toNat * 3)).off + 1, none⟩ = some (.int .i64 (rd_T32 xs i).f1) ∧ w.cell? ⟨(ad.add (i.toNat * 3)).block, (ad.add (i.toNat * 3)).off + 2, none⟩ = some (.int .i64 (rd_T32 xs i).f2) := by
  obtain ⟨ad, c, e, _, hK, hc0⟩ := Kd.C_get h z32 i h0 h1
  have hc : ∀ j u, c[j]? = some u → w.cell? (ad.add (i.toNat * 3 + j)) = some u := hc0
  obtain rfl := k32_open hK
  exact ⟨ad, e, hc 0 _ rfl, by rw [← add_field _ _ 1 (by omega)]; exact hc 1 _ rfl, by rw [← add_field _ _ 2 (by omega)]; exact hc 2 _ rfl⟩
end Go.Proofs.YtgdbeiadlgkedaaGreatDoor.PFnHeader
set_option linter.unusedVariables false
set_option linter.unusedSimpArgs false
namespace Go.Proofs.YtgdbeiadlgkedaaGreatDoor
open Go.RowKit PFnHeader
def phead (t : Nat) (f l : Bool) : Nat := t * 4 + (if f then 1 else 0) + (if l then 2 else 0)
theorem phead_lt {t : Nat} (h : t < 4) (f l : Bool) : phead t f l < 16 := by unfold phead; split <;> split <;> omega
theorem or16 : ∀ (h : Fin 16), Go.bits .or .u8 ((h : Nat) : Int) 16 = (((h : Nat) + 16 : Nat) : Int) := by decide +kernel
theorem or32 : ∀ (h : Fin 16), Go.bits .or .u8 ((h : Nat) : Int) 32 = (((h : Nat) + 32 : Nat) : Int) := by decide +kernel
def u64n (t : Int) : Nat := (t % 18446744073709551616).toNat
theorem u64n_lt (t : Int) : u64n t < 18446744073709551616 := by unfold u64n; omega
def pbytes (t : Nat) (f l : Bool) (i n : Int) : List UInt8 :=
  if (i = 0 ∧ n = 0) ∨ t = 3 then [(phead t f l).toUInt8]
  else if i = n ∨ t = 0 then (phead t f l + 16).toUInt8 :: Lib.uvarint (u64n i)
  else (phead t f l + 32).toUInt8 :: (Lib.uvarint (u64n i) ++ Lib.uvarint (u64n n))
end Go.Proofs.YtgdbeiadlgkedaaGreatDoor
namespace Go.Proofs.YtgdbeiadlgkedaaGreatDoor.PFnHeaderBack
open Go.RowKit Go.Proofs.YtgdbeiadlgkedaaGreatDoorW.PrintWords Go.Proofs.YtgdbeiadlgkedaaGreatDoorW.PrintLast Go.Proofs.YtgdbeiadlgkedaaGreatDoorW.PrintMore
attribute [local go_sem] max2_int min2_int max_two min_two max_three min_three max_four min_four
set_option linter.unusedVariables false
set_option linter.unusedSimpArgs false
def errW : Option Int → Value
  | none => .nilIface
  | some c => .iface 0 (.int .i64 c)
theorem errW_none : errW none = .nilIface := rfl
theorem errW_some (c : Int) : errW (some c) = .iface 0 (.int .i64 c) := rfl
theorem info32 : (Tryz.prog.info? 32).map (fun i => (i.zero, i.size, i.bytes)) = some (some (.agg #[(.bool false), (.int .i64 0), (.int .i64 0)]), 3, 24) := by kernel_rfl
structure S23 where
  f0 : Bool
  f1 : Int
  f2 : Int
def z23 : S23 := ⟨false, (0 : Int), (0 : Int)⟩
def k23 : Kd S23 := Kd.iso (Kd.pair Kd.bool (Kd.pair (Kd.int .i64) (Kd.int .i64))) (fun x : S23 => (x.f0, x.f1, x.f2))
theorem k23_open {w : World} {x : S23} {cs : List Value} (h : k23.K w x cs) : cs = [.bool x.f0, .int .i64 x.f1, .int .i64 x.f2] := by
  obtain ⟨_, _, rfl, rfl, ⟨_, _, rfl, rfl, rfl⟩⟩ := h
  exact rfl
theorem k23_mkM (w : World) (base : Nat) (ok : Nat → Prop) (x : S23)  : k23.M w base ok x [.bool x.f0, .int .i64 x.f1, .int .i64 x.f2] := ⟨[.bool x.f0], [.int .i64 x.f1, .int .i64 x.f2], rfl, rfl, ⟨[.int .i64 x.f1], [.int .i64 x.f2], rfl, rfl, rfl⟩⟩
def rd_T23 (xs : List S23) (i : Int) : S23 := xs.getD i.toNat z23
theorem at_T23 {w : World} {A : Option Addr} {n : Nat} {xs : List S23} (h : Kd.C k23 w A n xs) (i : Int) (h0 : 0 ≤ i) (h1 : i < n) : ∃ ad , A = some ad ∧ w.cell? (ad.add (i.toNat * 3)) = some (.bool (rd_T23 xs i).f0) ∧ w.cell? ⟨(ad.add (i.toNat * 3)).block, (ad.add (i.toNat * 3)).off + 1, none⟩ = some (.int .i64 (rd_T23 xs i).f1) ∧ w.cell? ⟨(ad.add (i.toNat * 3)).block, (ad.add (i.toNat * 3)).off + 2, none⟩ = some (.int .i64 (rd_T23 xs i).f2) := by
  obtain ⟨ad, c, e, _, hK, hc0⟩ := Kd.C_get h z23 i h0 h1
  have hc : ∀ j u, c[j]? = some u → w.cell? (ad.add (i.toNat * 3 + j)) = some u := hc0
  obtain rfl := k23_open hK
  exact ⟨ad, e, hc 0 _ rfl, by rw [← add_field _ _ 1 (by omega)]; exact hc 1 _ rfl, by rw [← add_field _ _ 2 (by omega)]; exact hc 2 _ rfl⟩
structure S32 where
  f0 : Bool
  f1 : Int
  f2 : Int
def z32 : S32 := ⟨false, (0 : Int), (0 : Int)⟩
def k32 : Kd S32 := Kd.iso (Kd.pair Kd.bool (Kd.pair (Kd.int .i64) (Kd.int .i64))) (fun x : S32 => (x.f0, x.f1, x.f2))
theorem k32_open {w : World} {x : S32} {cs : List Value} (h : k32.K w x cs) : cs = [.bool x.f0, .int .i64 x.f1, .int .i64 x.f2] := by
  obtain ⟨_, _, rfl, rfl, ⟨_, _, rfl, rfl, rfl⟩⟩ := h
  exact rfl
theorem k32_mk (w : World) (x : S32)  : k32.K w x [.bool x.f0, .int .i64 x.f1, .int .i64 x.f2] := ⟨[.bool x.f0], [.int .i64 x.f1, .int .i64 x.f2], rfl, rfl, ⟨[.int .i64 x.f1], [.int .i64 x.f2], rfl, rfl, rfl⟩⟩
theorem k32_mkM (w : World) (base : Nat) (ok : Nat → Prop) (x : S32)  : k32.M w base ok x [.bool x.f0, .int .i64 x.f1, .int .i64 x.f2] := ⟨[.bool x.f0], [.int .i64 x.f1, .int .i64 x.f2], rfl, rfl, ⟨[.int .i64 x.f1], [.int .i64 x.f2], rfl, rfl, rfl⟩⟩
def rd_T32 (xs : List S32) (i : Int) : S32 := xs.getD i.toNat z32
theorem at_T32 {w : World} {A : Option Addr} {n : Nat} {xs : List S32} (h : Kd.C k32 w A n xs) (i : Int) (h0 : 0 ≤ i) (h1 : i < n) : ∃ ad , A = some ad ∧ w.cell? (ad.add (i.toNat * 3)) = some (.bool (rd_T32 xs i).f0) ∧ w.cell? ⟨(ad.add (i.toNat * 3)).block, (ad.add (i.toNat * 3)).off + 1, none⟩ = some (.int .i64 (rd_T32 xs i).f1) ∧ w.cell? ⟨(ad.add (i.toNat * 3)).block, (ad.add (i.toNat * 3)).off + 2, none⟩ = some (.int .i64 (rd_T32 xs i).f2) := by
  obtain ⟨ad, c, e, _, hK, hc0⟩ := Kd.C_get h z32 i h0 h1
  have hc : ∀ j u, c[j]? = some u → w.cell? (ad.add (i.toNat * 3 + j)) = some u := hc0
  obtain rfl := k32_open hK
  exact ⟨ad, e, hc 0 _ rfl, by rw [← add_field _ _ 1 (by omega)]; exact hc 1 _ rfl, by rw [← add_field _ _ 2 (by omega)]; exact hc 2 _ rfl⟩
end Go.Proofs.YtgdbeiadlgkedaaGreatDoor.PFnHeaderBack
set_option linter.unusedVariables false
set_option linter.unusedSimpArgs false
namespace Go.Proofs.YtgdbeiadlgkedaaGreatDoor.PFnHeaderBack
open Go.RowKit Go.Proofs.YtgdbeiadlgkedaaGreatDoorW.PrintWords Go.Proofs.YtgdbeiadlgkedaaGreatDoorW.PrintLast Go.Proofs.YtgdbeiadlgkedaaGreatDoorW.PrintMore
def spec_CodSpanTime.f (a0 : Int) : Option (Bool) := if a0 ≥ (-9223372036854775) then (some (decide (a0 ≤ 9223372036854775))) else (some false)
set_option maxHeartbeats 8000000 in
set_option maxRecDepth 100000 in
theorem spec_CodSpanTime.calls (a0 : Int) (r : Bool) (w : World) (h : spec_CodSpanTime.f a0 = some r) :
    Calls Tryz.prog 30 #[.int .i64 a0] w fun e w' => e = .returned (.bool r) ∧ Drawn0 w w' := by
  have H : (if a0 ≥ (-9223372036854775) then (some (decide (a0 ≤ 9223372036854775))) else (some false)) = some r := h
  clear h
  by_cases c2 : a0 ≥ (-9223372036854775)
  · rw [if_pos c2] at H
    have c2b0 : decide ((-9223372036854775) ≤ a0) = true := decide_eq_true c2
    clear c2
    obtain rfl := Option.some.inj H
    go_enter Tryz.func30, Tryz.ntmps30
    go_wp2
    go_ret
    exact ⟨by first | rfl | (simp; done) | (simp [*]; done), by repeat (first | exact Drawn0.refl _ | apply Drawn0.step)⟩
  · rw [if_neg c2] at H
    have c2b0 : decide ((-9223372036854775) ≤ a0) = false := decide_eq_false c2
    clear c2
    obtain rfl := Option.some.inj H
    go_enter Tryz.func30, Tryz.ntmps30
    go_wp2
    go_ret
    exact ⟨by first | rfl | (simp; done) | (simp [*]; done), by repeat (first | exact Drawn0.refl _ | apply Drawn0.step)⟩
def spec_CodPaneIs.f (a0_0 : Int) (a0_1 : Bool) (a0_2 : Bool) (a0_3 : Int) (a0_4 : Int) : Option (Bool) := if a0_0 ≥ 0 then (if a0_0 ≤ 3 then (if a0_0 = 0 then (if a0_4 = (-1) then (some true) else (if a0_3 = 0 then (some (a0_4 == 0)) else (some false))) else (some true)) else (some false)) else (some false)
set_option maxHeartbeats 8000000 in
set_option maxRecDepth 100000 in
theorem spec_CodPaneIs.calls (a0_0 : Int) (a0_1 : Bool) (a0_2 : Bool) (a0_3 : Int) (a0_4 : Int) (r : Bool) (w : World) (h : spec_CodPaneIs.f a0_0 a0_1 a0_2 a0_3 a0_4 = some r) :
    Calls Tryz.prog 51 #[.agg #[.int .i64 a0_0, .bool a0_1, .bool a0_2, .int .i64 a0_3, .int .i64 a0_4]] w fun e w' => e = .returned (.bool r) ∧ Below w.heap.size w w' := by
  have hu50 := Tryz.underlying50
  have HB := Aside0.mk (Below.refl w.heap.size w)
  have H : (if a0_0 ≥ 0 then (if a0_0 ≤ 3 then (if a0_0 = 0 then (if a0_4 = (-1) then (some true) else (if a0_3 = 0 then (some (a0_4 == 0)) else (some false))) else (some true)) else (some false)) else (some false)) = some r := h
  clear h
  by_cases c2 : a0_0 ≥ 0
  · rw [if_pos c2] at H
    have c2b0 : decide (0 ≤ a0_0) = true := decide_eq_true c2
    clear c2
    by_cases c3 : a0_0 ≤ 3
    · rw [if_pos c3] at H
      have c3b0 : decide (a0_0 ≤ 3) = true := decide_eq_true c3
      clear c3
      by_cases c4 : a0_0 = 0
      · rw [if_pos c4] at H
        have c4b0 : (a0_0 == 0) = true := beq_iff_eq.mpr c4
        have c4b1 : (a0_0 != 0) = false := bne_eq_false_iff_eq.mpr c4
        clear c4
        by_cases c5 : a0_4 = (-1)
        · rw [if_pos c5] at H
          have c5b0 : (a0_4 == (-1)) = true := beq_iff_eq.mpr c5
          have c5b1 : (a0_4 != (-1)) = false := bne_eq_false_iff_eq.mpr c5
          clear c5
          obtain rfl := Option.some.inj H
          go_enter Tryz.func51, Tryz.ntmps51
          go_wp2_with (first | ((with_reducible refine gate_dst (N := 1) rfl ?_); refine box_event ?hg (N := 1) ?hd (cs := #[.int .i64 a0_0, .bool a0_1, .bool a0_2, .int .i64 a0_3, .int .i64 a0_4]) (t := 50) ?hr ?_; (case hd => rfl); (case hg => rfl); (case hr => first | (go_simp; done) | (go_simp; rfl)); intro gb135 hg w6 hbox hb; have n0_ := Aside0.mk (below_step (by repeat (first | (with_reducible first | exact HB.out | apply below_alloc | apply pw_below_drewN | apply below_drew1) | exact HB.out)) hb); have n1_ := Aside0.mk (hbox); have n2_ := Aside0.mk ((by rw [hg]; exact (below_size (by repeat (first | (with_reducible first | exact HB.out | apply below_alloc | apply pw_below_drewN | apply below_drew1) | exact HB.out))) : w.heap.size ≤ gb135)); have n3_ := Aside0.mk ((by rw [hg]; exact (below_size (by repeat (first | (with_reducible first | exact HB.out | apply below_alloc | apply pw_below_drewN | apply below_drew1) | exact HB.out))) : w.heap.size ≤ gb135)); clear HB; have HB := n0_; have BK135 := n1_; have GW135 := n2_; have GE135 := n3_; clear n0_ n1_ n2_ n3_; clear hb hbox hg; have hcz7_0 : w6.cell? ⟨gb135, 0, none⟩ = some (.int .i64 a0_0) := (blk_cell BK135.out 0).trans rfl; have hcz7_1 : w6.cell? ⟨gb135, 1, none⟩ = some (.bool a0_1) := (blk_cell BK135.out 1).trans rfl; have hcz7_2 : w6.cell? ⟨gb135, 2, none⟩ = some (.bool a0_2) := (blk_cell BK135.out 2).trans rfl; have hcz7_3 : w6.cell? ⟨gb135, 3, none⟩ = some (.int .i64 a0_3) := (blk_cell BK135.out 3).trans rfl; have hcz7_4 : w6.cell? ⟨gb135, 4, none⟩ = some (.int .i64 a0_4) := (blk_cell BK135.out 4).trans rfl; have hfz7_0 := blk_frozen BK135.out 0; have hfz7_1 := blk_frozen BK135.out 1; have hfz7_2 := blk_frozen BK135.out 2; have hfz7_3 := blk_frozen BK135.out 3; have hfz7_4 := blk_frozen BK135.out 4))
          go_ret
          exact ⟨by first | rfl | (simp [errW_none, errW_some] <;> rfl) | (simp [*, errW_none, errW_some] <;> rfl), by repeat (first | (with_reducible first | exact HB.out | apply below_alloc | apply pw_below_drewN | apply below_drew1 | refine below_set ?_ GE135.out) | exact HB.out)⟩
        · rw [if_neg c5] at H
          have c5b0 : (a0_4 == (-1)) = false := beq_eq_false_iff_ne.mpr c5
          have c5b1 : (a0_4 != (-1)) = true := bne_iff_ne.mpr c5
          by_cases c8 : a0_3 = 0
          · rw [if_pos c8] at H
            have c8b0 : (a0_3 == 0) = true := beq_iff_eq.mpr c8
            have c8b1 : (a0_3 != 0) = false := bne_eq_false_iff_eq.mpr c8
            clear c8
            obtain rfl := Option.some.inj H
            go_enter Tryz.func51, Tryz.ntmps51
            go_wp2_with (first | ((with_reducible refine gate_dst (N := 1) rfl ?_); refine box_event ?hg (N := 1) ?hd (cs := #[.int .i64 a0_0, .bool a0_1, .bool a0_2, .int .i64 a0_3, .int .i64 a0_4]) (t := 50) ?hr ?_; (case hd => rfl); (case hg => rfl); (case hr => first | (go_simp; done) | (go_simp; rfl)); intro gb135 hg w9 hbox hb; have n0_ := Aside0.mk (below_step (by repeat (first | (with_reducible first | exact HB.out | apply below_alloc | apply pw_below_drewN | apply below_drew1) | exact HB.out)) hb); have n1_ := Aside0.mk (hbox); have n2_ := Aside0.mk ((by rw [hg]; exact (below_size (by repeat (first | (with_reducible first | exact HB.out | apply below_alloc | apply pw_below_drewN | apply below_drew1) | exact HB.out))) : w.heap.size ≤ gb135)); have n3_ := Aside0.mk ((by rw [hg]; exact (below_size (by repeat (first | (with_reducible first | exact HB.out | apply below_alloc | apply pw_below_drewN | apply below_drew1) | exact HB.out))) : w.heap.size ≤ gb135)); clear HB; have HB := n0_; have BK135 := n1_; have GW135 := n2_; have GE135 := n3_; clear n0_ n1_ n2_ n3_; clear hb hbox hg; have hcz10_0 : w9.cell? ⟨gb135, 0, none⟩ = some (.int .i64 a0_0) := (blk_cell BK135.out 0).trans rfl; have hcz10_1 : w9.cell? ⟨gb135, 1, none⟩ = some (.bool a0_1) := (blk_cell BK135.out 1).trans rfl; have hcz10_2 : w9.cell? ⟨gb135, 2, none⟩ = some (.bool a0_2) := (blk_cell BK135.out 2).trans rfl; have hcz10_3 : w9.cell? ⟨gb135, 3, none⟩ = some (.int .i64 a0_3) := (blk_cell BK135.out 3).trans rfl; have hcz10_4 : w9.cell? ⟨gb135, 4, none⟩ = some (.int .i64 a0_4) := (blk_cell BK135.out 4).trans rfl; have hfz10_0 := blk_frozen BK135.out 0; have hfz10_1 := blk_frozen BK135.out 1; have hfz10_2 := blk_frozen BK135.out 2; have hfz10_3 := blk_frozen BK135.out 3; have hfz10_4 := blk_frozen BK135.out 4))
            go_ret
            exact ⟨by first | rfl | (simp [errW_none, errW_some] <;> rfl) | (simp [*, errW_none, errW_some] <;> rfl), by repeat (first | (with_reducible first | exact HB.out | apply below_alloc | apply pw_below_drewN | apply below_drew1 | refine below_set ?_ GE135.out) | exact HB.out)⟩
          · rw [if_neg c8] at H
            have c8b0 : (a0_3 == 0) = false := beq_eq_false_iff_ne.mpr c8
            have c8b1 : (a0_3 != 0) = true := bne_iff_ne.mpr c8
            obtain rfl := Option.some.inj H
            go_enter Tryz.func51, Tryz.ntmps51
            go_wp2_with (first | ((with_reducible refine gate_dst (N := 1) rfl ?_); refine box_event ?hg (N := 1) ?hd (cs := #[.int .i64 a0_0, .bool a0_1, .bool a0_2, .int .i64 a0_3, .int .i64 a0_4]) (t := 50) ?hr ?_; (case hd => rfl); (case hg => rfl); (case hr => first | (go_simp; done) | (go_simp; rfl)); intro gb135 hg w11 hbox hb; have n0_ := Aside0.mk (below_step (by repeat (first | (with_reducible first | exact HB.out | apply below_alloc | apply pw_below_drewN | apply below_drew1) | exact HB.out)) hb); have n1_ := Aside0.mk (hbox); have n2_ := Aside0.mk ((by rw [hg]; exact (below_size (by repeat (first | (with_reducible first | exact HB.out | apply below_alloc | apply pw_below_drewN | apply below_drew1) | exact HB.out))) : w.heap.size ≤ gb135)); have n3_ := Aside0.mk ((by rw [hg]; exact (below_size (by repeat (first | (with_reducible first | exact HB.out | apply below_alloc | apply pw_below_drewN | apply below_drew1) | exact HB.out))) : w.heap.size ≤ gb135)); clear HB; have HB := n0_; have BK135 := n1_; have GW135 := n2_; have GE135 := n3_; clear n0_ n1_ n2_ n3_; clear hb hbox hg; have hcz12_0 : w11.cell? ⟨gb135, 0, none⟩ = some (.int .i64 a0_0) := (blk_cell BK135.out 0).trans rfl; have hcz12_1 : w11.cell? ⟨gb135, 1, none⟩ = some (.bool a0_1) := (blk_cell BK135.out 1).trans rfl; have hcz12_2 : w11.cell? ⟨gb135, 2, none⟩ = some (.bool a0_2) := (blk_cell BK135.out 2).trans rfl; have hcz12_3 : w11.cell? ⟨gb135, 3, none⟩ = some (.int .i64 a0_3) := (blk_cell BK135.out 3).trans rfl; have hcz12_4 : w11.cell? ⟨gb135, 4, none⟩ = some (.int .i64 a0_4) := (blk_cell BK135.out 4).trans rfl; have hfz12_0 := blk_frozen BK135.out 0; have hfz12_1 := blk_frozen BK135.out 1; have hfz12_2 := blk_frozen BK135.out 2; have hfz12_3 := blk_frozen BK135.out 3; have hfz12_4 := blk_frozen BK135.out 4))
            go_ret
            exact ⟨by first | rfl | (simp [errW_none, errW_some] <;> rfl) | (simp [*, errW_none, errW_some] <;> rfl), by repeat (first | (with_reducible first | exact HB.out | apply below_alloc | apply pw_below_drewN | apply below_drew1 | refine below_set ?_ GE135.out) | exact HB.out)⟩
      · rw [if_neg c4] at H
        have c4b0 : (a0_0 == 0) = false := beq_eq_false_iff_ne.mpr c4
        have c4b1 : (a0_0 != 0) = true := bne_iff_ne.mpr c4
        obtain rfl := Option.some.inj H
        go_enter Tryz.func51, Tryz.ntmps51
        go_wp2_with (first | ((with_reducible refine gate_dst (N := 1) rfl ?_); refine box_event ?hg (N := 1) ?hd (cs := #[.int .i64 a0_0, .bool a0_1, .bool a0_2, .int .i64 a0_3, .int .i64 a0_4]) (t := 50) ?hr ?_; (case hd => rfl); (case hg => rfl); (case hr => first | (go_simp; done) | (go_simp; rfl)); intro gb135 hg w13 hbox hb; have n0_ := Aside0.mk (below_step (by repeat (first | (with_reducible first | exact HB.out | apply below_alloc | apply pw_below_drewN | apply below_drew1) | exact HB.out)) hb); have n1_ := Aside0.mk (hbox); have n2_ := Aside0.mk ((by rw [hg]; exact (below_size (by repeat (first | (with_reducible first | exact HB.out | apply below_alloc | apply pw_below_drewN | apply below_drew1) | exact HB.out))) : w.heap.size ≤ gb135)); have n3_ := Aside0.mk ((by rw [hg]; exact (below_size (by repeat (first | (with_reducible first | exact HB.out | apply below_alloc | apply pw_below_drewN | apply below_drew1) | exact HB.out))) : w.heap.size ≤ gb135)); clear HB; have HB := n0_; have BK135 := n1_; have GW135 := n2_; have GE135 := n3_; clear n0_ n1_ n2_ n3_; clear hb hbox hg; have hcz14_0 : w13.cell? ⟨gb135, 0, none⟩ = some (.int .i64 a0_0) := (blk_cell BK135.out 0).trans rfl; have hcz14_1 : w13.cell? ⟨gb135, 1, none⟩ = some (.bool a0_1) := (blk_cell BK135.out 1).trans rfl; have hcz14_2 : w13.cell? ⟨gb135, 2, none⟩ = some (.bool a0_2) := (blk_cell BK135.out 2).trans rfl; have hcz14_3 : w13.cell? ⟨gb135, 3, none⟩ = some (.int .i64 a0_3) := (blk_cell BK135.out 3).trans rfl; have hcz14_4 : w13.cell? ⟨gb135, 4, none⟩ = some (.int .i64 a0_4) := (blk_cell BK135.out 4).trans rfl; have hfz14_0 := blk_frozen BK135.out 0; have hfz14_1 := blk_frozen BK135.out 1; have hfz14_2 := blk_frozen BK135.out 2; have hfz14_3 := blk_frozen BK135.out 3; have hfz14_4 := blk_frozen BK135.out 4))
        go_ret
        exact ⟨by first | rfl | (simp [errW_none, errW_some] <;> rfl) | (simp [*, errW_none, errW_some] <;> rfl), by repeat (first | (with_reducible first | exact HB.out | apply below_alloc | apply pw_below_drewN | apply below_drew1 | refine below_set ?_ GE135.out) | exact HB.out)⟩
    · rw [if_neg c3] at H
      have c3b0 : decide (a0_0 ≤ 3) = false := decide_eq_false c3
      clear c3
      obtain rfl := Option.some.inj H
      go_enter Tryz.func51, Tryz.ntmps51
      go_wp2_with (first | ((with_reducible refine gate_dst (N := 1) rfl ?_); refine box_event ?hg (N := 1) ?hd (cs := #[.int .i64 a0_0, .bool a0_1, .bool a0_2, .int .i64 a0_3, .int .i64 a0_4]) (t := 50) ?hr ?_; (case hd => rfl); (case hg => rfl); (case hr => first | (go_simp; done) | (go_simp; rfl)); intro gb135 hg w15 hbox hb; have n0_ := Aside0.mk (below_step (by repeat (first | (with_reducible first | exact HB.out | apply below_alloc | apply pw_below_drewN | apply below_drew1) | exact HB.out)) hb); have n1_ := Aside0.mk (hbox); have n2_ := Aside0.mk ((by rw [hg]; exact (below_size (by repeat (first | (with_reducible first | exact HB.out | apply below_alloc | apply pw_below_drewN | apply below_drew1) | exact HB.out))) : w.heap.size ≤ gb135)); have n3_ := Aside0.mk ((by rw [hg]; exact (below_size (by repeat (first | (with_reducible first | exact HB.out | apply below_alloc | apply pw_below_drewN | apply below_drew1) | exact HB.out))) : w.heap.size ≤ gb135)); clear HB; have HB := n0_; have BK135 := n1_; have GW135 := n2_; have GE135 := n3_; clear n0_ n1_ n2_ n3_; clear hb hbox hg; have hcz16_0 : w15.cell? ⟨gb135, 0, none⟩ = some (.int .i64 a0_0) := (blk_cell BK135.out 0).trans rfl; have hcz16_1 : w15.cell? ⟨gb135, 1, none⟩ = some (.bool a0_1) := (blk_cell BK135.out 1).trans rfl; have hcz16_2 : w15.cell? ⟨gb135, 2, none⟩ = some (.bool a0_2) := (blk_cell BK135.out 2).trans rfl; have hcz16_3 : w15.cell? ⟨gb135, 3, none⟩ = some (.int .i64 a0_3) := (blk_cell BK135.out 3).trans rfl; have hcz16_4 : w15.cell? ⟨gb135, 4, none⟩ = some (.int .i64 a0_4) := (blk_cell BK135.out 4).trans rfl; have hfz16_0 := blk_frozen BK135.out 0; have hfz16_1 := blk_frozen BK135.out 1; have hfz16_2 := blk_frozen BK135.out 2; have hfz16_3 := blk_frozen BK135.out 3; have hfz16_4 := blk_frozen BK135.out 4))
      go_ret
      exact ⟨by first | rfl | (simp [errW_none, errW_some] <;> rfl) | (simp [*, errW_none, errW_some] <;> rfl), by repeat (first | (with_reducible first | exact HB.out | apply below_alloc | apply pw_below_drewN | apply below_drew1 | refine below_set ?_ GE135.out) | exact HB.out)⟩
  · rw [if_neg c2] at H
    have c2b0 : decide (0 ≤ a0_0) = false := decide_eq_false c2
    clear c2
    obtain rfl := Option.some.inj H
    go_enter Tryz.func51, Tryz.ntmps51
    go_wp2_with (first | ((with_reducible refine gate_dst (N := 1) rfl ?_); refine box_event ?hg (N := 1) ?hd (cs := #[.int .i64 a0_0, .bool a0_1, .bool a0_2, .int .i64 a0_3, .int .i64 a0_4]) (t := 50) ?hr ?_; (case hd => rfl); (case hg => rfl); (case hr => first | (go_simp; done) | (go_simp; rfl)); intro gb135 hg w17 hbox hb; have n0_ := Aside0.mk (below_step (by repeat (first | (with_reducible first | exact HB.out | apply below_alloc | apply pw_below_drewN | apply below_drew1) | exact HB.out)) hb); have n1_ := Aside0.mk (hbox); have n2_ := Aside0.mk ((by rw [hg]; exact (below_size (by repeat (first | (with_reducible first | exact HB.out | apply below_alloc | apply pw_below_drewN | apply below_drew1) | exact HB.out))) : w.heap.size ≤ gb135)); have n3_ := Aside0.mk ((by rw [hg]; exact (below_size (by repeat (first | (with_reducible first | exact HB.out | apply below_alloc | apply pw_below_drewN | apply below_drew1) | exact HB.out))) : w.heap.size ≤ gb135)); clear HB; have HB := n0_; have BK135 := n1_; have GW135 := n2_; have GE135 := n3_; clear n0_ n1_ n2_ n3_; clear hb hbox hg; have hcz18_0 : w17.cell? ⟨gb135, 0, none⟩ = some (.int .i64 a0_0) := (blk_cell BK135.out 0).trans rfl; have hcz18_1 : w17.cell? ⟨gb135, 1, none⟩ = some (.bool a0_1) := (blk_cell BK135.out 1).trans rfl; have hcz18_2 : w17.cell? ⟨gb135, 2, none⟩ = some (.bool a0_2) := (blk_cell BK135.out 2).trans rfl; have hcz18_3 : w17.cell? ⟨gb135, 3, none⟩ = some (.int .i64 a0_3) := (blk_cell BK135.out 3).trans rfl; have hcz18_4 : w17.cell? ⟨gb135, 4, none⟩ = some (.int .i64 a0_4) := (blk_cell BK135.out 4).trans rfl; have hfz18_0 := blk_frozen BK135.out 0; have hfz18_1 := blk_frozen BK135.out 1; have hfz18_2 := blk_frozen BK135.out 2; have hfz18_3 := blk_frozen BK135.out 3; have hfz18_4 := blk_frozen BK135.out 4))
    go_ret
    exact ⟨by first | rfl | (simp [errW_none, errW_some] <;> rfl) | (simp [*, errW_none, errW_some] <;> rfl), by repeat (first | (with_reducible first | exact HB.out | apply below_alloc | apply pw_below_drewN | apply below_drew1 | refine below_set ?_ GE135.out) | exact HB.out)⟩
def spec_CodPaneBack.f (a0_0 : Int) (a0_1 : Bool) (a0_2 : Bool) (a0_3 : Int) (a0_4 : Int) : Option (Int × Bool × Bool × Int × Int) := if a0_0 = 3 then (some (a0_0, a0_1, a0_2, 0, 0)) else (some (a0_0, a0_1, a0_2, a0_3, a0_4))
set_option maxHeartbeats 8000000 in
set_option maxRecDepth 100000 in
theorem spec_CodPaneBack.calls (a0_0 : Int) (a0_1 : Bool) (a0_2 : Bool) (a0_3 : Int) (a0_4 : Int) (r1 : Int) (r2 : Bool) (r3 : Bool) (r4 : Int) (r5 : Int) (w : World) (h : spec_CodPaneBack.f a0_0 a0_1 a0_2 a0_3 a0_4 = some (r1, r2, r3, r4, r5)) :
    Calls Tryz.prog 25 #[.agg #[.int .i64 a0_0, .bool a0_1, .bool a0_2, .int .i64 a0_3, .int .i64 a0_4]] w fun e w' => e = .returned (.agg #[.int .i64 r1, .bool r2, .bool r3, .int .i64 r4, .int .i64 r5]) ∧ Below w.heap.size w w' := by
  have hu50 := Tryz.underlying50
  have HB := Aside0.mk (Below.refl w.heap.size w)
  have H : (if a0_0 = 3 then (some (a0_0, a0_1, a0_2, 0, 0)) else (some (a0_0, a0_1, a0_2, a0_3, a0_4))) = some (r1, r2, r3, r4, r5) := h
  clear h
  by_cases c2 : a0_0 = 3
  · rw [if_pos c2] at H
    have c2b0 : (a0_0 == 3) = true := beq_iff_eq.mpr c2
    have c2b1 : (a0_0 != 3) = false := bne_eq_false_iff_eq.mpr c2
    clear c2
    simp only [Option.some.injEq, Prod.mk.injEq] at H
    obtain ⟨rfl, rfl, rfl, rfl, rfl⟩ := H
    go_enter Tryz.func25, Tryz.ntmps25
    go_wp2_with (first | ((with_reducible refine gate_dst (N := 1) rfl ?_); refine box_event ?hg (N := 1) ?hd (cs := #[.int .i64 a0_0, .bool a0_1, .bool a0_2, .int .i64 a0_3, .int .i64 a0_4]) (t := 50) ?hr ?_; (case hd => rfl); (case hg => rfl); (case hr => first | (go_simp; done) | (go_simp; rfl)); intro gb157 hg w3 hbox hb; have n0_ := Aside0.mk (below_step (by repeat (first | (with_reducible first | exact HB.out | apply below_alloc | apply pw_below_drewN | apply below_drew1) | exact HB.out)) hb); have n1_ := Aside0.mk (hbox); have n2_ := Aside0.mk ((by rw [hg]; exact (below_size (by repeat (first | (with_reducible first | exact HB.out | apply below_alloc | apply pw_below_drewN | apply below_drew1) | exact HB.out))) : w.heap.size ≤ gb157)); have n3_ := Aside0.mk ((by rw [hg]; exact (below_size (by repeat (first | (with_reducible first | exact HB.out | apply below_alloc | apply pw_below_drewN | apply below_drew1) | exact HB.out))) : w.heap.size ≤ gb157)); clear HB; have HB := n0_; have BK157 := n1_; have GW157 := n2_; have GE157 := n3_; clear n0_ n1_ n2_ n3_; clear hb hbox hg) | ((with_reducible refine gate_dst (N := 2) rfl ?_); refine box_event ?hg (N := 2) ?hd (cs := #[.int .i64 0, .bool false, .bool false, .int .i64 0, .int .i64 0]) (t := 50) ?hr ?_; (case hd => rfl); (case hg => rfl); (case hr => first | (go_simp; done) | (go_simp; rfl)); intro gb158 hg w4 hbox hb; have n0_ := Aside0.mk (blk_below (g := gb157) (o := .cells #[.int .i64 a0_0, .bool a0_1, .bool a0_2, .int .i64 a0_3, .int .i64 a0_4] 50 (0, 0)) (by (with_reducible repeat (first | refine blk_drewN ?_ _ | refine blk_drew ?_ | refine blk_alloc ?_ _)); exact BK157.out) hb); have n1_ := Aside0.mk (below_step (by repeat (first | (with_reducible first | exact HB.out | apply below_alloc | apply pw_below_drewN | apply below_drew1 | refine below_set ?_ GE157.out) | exact HB.out)) hb); have n2_ := Aside0.mk (hbox); have n3_ := Aside0.mk ((by rw [hg]; exact (below_size (by repeat (first | (with_reducible first | exact HB.out | apply below_alloc | apply pw_below_drewN | apply below_drew1 | refine below_set ?_ GE157.out) | exact HB.out))) : w.heap.size ≤ gb158)); have n4_ := Aside0.mk ((by rw [hg]; exact (below_size (by repeat (first | (with_reducible first | exact HB.out | apply below_alloc | apply pw_below_drewN | apply below_drew1 | refine below_set ?_ GE157.out) | exact HB.out))) : w.heap.size ≤ gb158)); have n5_ := Aside0.mk ((by rw [hg]; exact Nat.ne_of_lt (blk_lt (g := gb157) (o := .cells #[.int .i64 a0_0, .bool a0_1, .bool a0_2, .int .i64 a0_3, .int .i64 a0_4] 50 (0, 0)) (by (with_reducible repeat (first | refine blk_drewN ?_ _ | refine blk_drew ?_ | refine blk_alloc ?_ _)); exact BK157.out)) : gb157 ≠ gb158)); have n6_ := Aside0.mk ((by rw [hg]; exact Nat.ne_of_gt (blk_lt (g := gb157) (o := .cells #[.int .i64 a0_0, .bool a0_1, .bool a0_2, .int .i64 a0_3, .int .i64 a0_4] 50 (0, 0)) (by (with_reducible repeat (first | refine blk_drewN ?_ _ | refine blk_drew ?_ | refine blk_alloc ?_ _)); exact BK157.out)) : gb158 ≠ gb157)); clear BK157; clear HB; have BK157 := n0_; have HB := n1_; have BK158 := n2_; have GW158 := n3_; have GE158 := n4_; have NB157_158 := n5_; have NB158_157 := n6_; clear n0_ n1_ n2_ n3_ n4_ n5_ n6_; clear hb hbox hg; have hnb5 := NB157_158.out; have hnc5 := NB158_157.out; have hcz6_0 : w4.cell? ⟨gb157, 0, none⟩ = some (.int .i64 a0_0) := (blk_cell BK157.out 0).trans rfl; have hcz6_1 : w4.cell? ⟨gb157, 1, none⟩ = some (.bool a0_1) := (blk_cell BK157.out 1).trans rfl; have hcz6_2 : w4.cell? ⟨gb157, 2, none⟩ = some (.bool a0_2) := (blk_cell BK157.out 2).trans rfl; have hcz6_3 : w4.cell? ⟨gb157, 3, none⟩ = some (.int .i64 a0_3) := (blk_cell BK157.out 3).trans rfl; have hcz6_4 : w4.cell? ⟨gb157, 4, none⟩ = some (.int .i64 a0_4) := (blk_cell BK157.out 4).trans rfl; have hfz6_0 := blk_frozen BK157.out 0; have hfz6_1 := blk_frozen BK157.out 1; have hfz6_2 := blk_frozen BK157.out 2; have hfz6_3 := blk_frozen BK157.out 3; have hfz6_4 := blk_frozen BK157.out 4; have hcz7_0 : w4.cell? ⟨gb158, 0, none⟩ = some (.int .i64 0) := (blk_cell BK158.out 0).trans rfl; have hcz7_1 : w4.cell? ⟨gb158, 1, none⟩ = some (.bool false) := (blk_cell BK158.out 1).trans rfl; have hcz7_2 : w4.cell? ⟨gb158, 2, none⟩ = some (.bool false) := (blk_cell BK158.out 2).trans rfl; have hcz7_3 : w4.cell? ⟨gb158, 3, none⟩ = some (.int .i64 0) := (blk_cell BK158.out 3).trans rfl; have hcz7_4 : w4.cell? ⟨gb158, 4, none⟩ = some (.int .i64 0) := (blk_cell BK158.out 4).trans rfl; have hfz7_0 := blk_frozen BK158.out 0; have hfz7_1 := blk_frozen BK158.out 1; have hfz7_2 := blk_frozen BK158.out 2; have hfz7_3 := blk_frozen BK158.out 3; have hfz7_4 := blk_frozen BK158.out 4))
    refine bodyPost_ret (results_cell_row rfl _ _ gb158 50 #[.int .i64 a0_0, .bool a0_1, .bool a0_2, .int .i64 0, .int .i64 0] (0, 0) _ rfl (by (with_reducible repeat (first | refine blk_drewN ?_ _ | refine blk_drew ?_ | refine blk_alloc ?_ _)); refine blk_put (cs := #[.int .i64 a0_0, .bool a0_1, .bool a0_2, .int .i64 0, .int .i64 0]) ?_ 4 _ rfl; (with_reducible repeat (first | refine blk_drewN ?_ _ | refine blk_drew ?_ | refine blk_alloc ?_ _)); refine blk_put (cs := #[.int .i64 a0_0, .bool a0_1, .bool a0_2, .int .i64 0, .int .i64 0]) ?_ 3 _ rfl; (with_reducible repeat (first | refine blk_drewN ?_ _ | refine blk_drew ?_ | refine blk_alloc ?_ _)); refine blk_put (cs := #[.int .i64 a0_0, .bool a0_1, .bool false, .int .i64 0, .int .i64 0]) ?_ 2 _ rfl; (with_reducible repeat (first | refine blk_drewN ?_ _ | refine blk_drew ?_ | refine blk_alloc ?_ _)); refine blk_put (cs := #[.int .i64 a0_0, .bool false, .bool false, .int .i64 0, .int .i64 0]) ?_ 1 _ rfl; (with_reducible repeat (first | refine blk_drewN ?_ _ | refine blk_drew ?_ | refine blk_alloc ?_ _)); refine blk_put (cs := #[.int .i64 0, .bool false, .bool false, .int .i64 0, .int .i64 0]) ?_ 0 _ rfl; (with_reducible repeat (first | refine blk_drewN ?_ _ | refine blk_drew ?_ | refine blk_alloc ?_ _)); refine blk_far ?_ NB158_157.out _; (with_reducible repeat (first | refine blk_drewN ?_ _ | refine blk_drew ?_ | refine blk_alloc ?_ _)); refine blk_far ?_ NB158_157.out _; (with_reducible repeat (first | refine blk_drewN ?_ _ | refine blk_drew ?_ | refine blk_alloc ?_ _)); exact BK158.out) Tryz.underlying50 rfl (by kernel_rfl)) rfl ?_
    exact ⟨by first | rfl | (simp [errW_none, errW_some] <;> rfl) | (simp [*, errW_none, errW_some] <;> rfl), by repeat (first | (with_reducible first | exact HB.out | apply below_alloc | apply pw_below_drewN | apply below_drew1 | refine below_set ?_ GE157.out | refine below_set ?_ GE158.out) | exact HB.out)⟩
  · rw [if_neg c2] at H
    have c2b0 : (a0_0 == 3) = false := beq_eq_false_iff_ne.mpr c2
    have c2b1 : (a0_0 != 3) = true := bne_iff_ne.mpr c2
    simp only [Option.some.injEq, Prod.mk.injEq] at H
    obtain ⟨rfl, rfl, rfl, rfl, rfl⟩ := H
    go_enter Tryz.func25, Tryz.ntmps25
    go_wp2_with (first | ((with_reducible refine gate_dst (N := 1) rfl ?_); refine box_event ?hg (N := 1) ?hd (cs := #[.int .i64 a0_0, .bool a0_1, .bool a0_2, .int .i64 a0_3, .int .i64 a0_4]) (t := 50) ?hr ?_; (case hd => rfl); (case hg => rfl); (case hr => first | (go_simp; done) | (go_simp; rfl)); intro gb157 hg w8 hbox hb; have n0_ := Aside0.mk (below_step (by repeat (first | (with_reducible first | exact HB.out | apply below_alloc | apply pw_below_drewN | apply below_drew1) | exact HB.out)) hb); have n1_ := Aside0.mk (hbox); have n2_ := Aside0.mk ((by rw [hg]; exact (below_size (by repeat (first | (with_reducible first | exact HB.out | apply below_alloc | apply pw_below_drewN | apply below_drew1) | exact HB.out))) : w.heap.size ≤ gb157)); have n3_ := Aside0.mk ((by rw [hg]; exact (below_size (by repeat (first | (with_reducible first | exact HB.out | apply below_alloc | apply pw_below_drewN | apply below_drew1) | exact HB.out))) : w.heap.size ≤ gb157)); clear HB; have HB := n0_; have BK157 := n1_; have GW157 := n2_; have GE157 := n3_; clear n0_ n1_ n2_ n3_; clear hb hbox hg) | ((with_reducible refine gate_dst (N := 2) rfl ?_); refine box_event ?hg (N := 2) ?hd (cs := #[.int .i64 0, .bool false, .bool false, .int .i64 0, .int .i64 0]) (t := 50) ?hr ?_; (case hd => rfl); (case hg => rfl); (case hr => first | (go_simp; done) | (go_simp; rfl)); intro gb158 hg w9 hbox hb; have n0_ := Aside0.mk (blk_below (g := gb157) (o := .cells #[.int .i64 a0_0, .bool a0_1, .bool a0_2, .int .i64 a0_3, .int .i64 a0_4] 50 (0, 0)) (by (with_reducible repeat (first | refine blk_drewN ?_ _ | refine blk_drew ?_ | refine blk_alloc ?_ _)); exact BK157.out) hb); have n1_ := Aside0.mk (below_step (by repeat (first | (with_reducible first | exact HB.out | apply below_alloc | apply pw_below_drewN | apply below_drew1 | refine below_set ?_ GE157.out) | exact HB.out)) hb); have n2_ := Aside0.mk (hbox); have n3_ := Aside0.mk ((by rw [hg]; exact (below_size (by repeat (first | (with_reducible first | exact HB.out | apply below_alloc | apply pw_below_drewN | apply below_drew1 | refine below_set ?_ GE157.out) | exact HB.out))) : w.heap.size ≤ gb158)); have n4_ := Aside0.mk ((by rw [hg]; exact (below_size (by repeat (first | (with_reducible first | exact HB.out | apply below_alloc | apply pw_below_drewN | apply below_drew1 | refine below_set ?_ GE157.out) | exact HB.out))) : w.heap.size ≤ gb158)); have n5_ := Aside0.mk ((by rw [hg]; exact Nat.ne_of_lt (blk_lt (g := gb157) (o := .cells #[.int .i64 a0_0, .bool a0_1, .bool a0_2, .int .i64 a0_3, .int .i64 a0_4] 50 (0, 0)) (by (with_reducible repeat (first | refine blk_drewN ?_ _ | refine blk_drew ?_ | refine blk_alloc ?_ _)); exact BK157.out)) : gb157 ≠ gb158)); have n6_ := Aside0.mk ((by rw [hg]; exact Nat.ne_of_gt (blk_lt (g := gb157) (o := .cells #[.int .i64 a0_0, .bool a0_1, .bool a0_2, .int .i64 a0_3, .int .i64 a0_4] 50 (0, 0)) (by (with_reducible repeat (first | refine blk_drewN ?_ _ | refine blk_drew ?_ | refine blk_alloc ?_ _)); exact BK157.out)) : gb158 ≠ gb157)); clear BK157; clear HB; have BK157 := n0_; have HB := n1_; have BK158 := n2_; have GW158 := n3_; have GE158 := n4_; have NB157_158 := n5_; have NB158_157 := n6_; clear n0_ n1_ n2_ n3_ n4_ n5_ n6_; clear hb hbox hg; have hnb10 := NB157_158.out; have hnc10 := NB158_157.out; have hcz11_0 : w9.cell? ⟨gb157, 0, none⟩ = some (.int .i64 a0_0) := (blk_cell BK157.out 0).trans rfl; have hcz11_1 : w9.cell? ⟨gb157, 1, none⟩ = some (.bool a0_1) := (blk_cell BK157.out 1).trans rfl; have hcz11_2 : w9.cell? ⟨gb157, 2, none⟩ = some (.bool a0_2) := (blk_cell BK157.out 2).trans rfl; have hcz11_3 : w9.cell? ⟨gb157, 3, none⟩ = some (.int .i64 a0_3) := (blk_cell BK157.out 3).trans rfl; have hcz11_4 : w9.cell? ⟨gb157, 4, none⟩ = some (.int .i64 a0_4) := (blk_cell BK157.out 4).trans rfl; have hfz11_0 := blk_frozen BK157.out 0; have hfz11_1 := blk_frozen BK157.out 1; have hfz11_2 := blk_frozen BK157.out 2; have hfz11_3 := blk_frozen BK157.out 3; have hfz11_4 := blk_frozen BK157.out 4; have hcz12_0 : w9.cell? ⟨gb158, 0, none⟩ = some (.int .i64 0) := (blk_cell BK158.out 0).trans rfl; have hcz12_1 : w9.cell? ⟨gb158, 1, none⟩ = some (.bool false) := (blk_cell BK158.out 1).trans rfl; have hcz12_2 : w9.cell? ⟨gb158, 2, none⟩ = some (.bool false) := (blk_cell BK158.out 2).trans rfl; have hcz12_3 : w9.cell? ⟨gb158, 3, none⟩ = some (.int .i64 0) := (blk_cell BK158.out 3).trans rfl; have hcz12_4 : w9.cell? ⟨gb158, 4, none⟩ = some (.int .i64 0) := (blk_cell BK158.out 4).trans rfl; have hfz12_0 := blk_frozen BK158.out 0; have hfz12_1 := blk_frozen BK158.out 1; have hfz12_2 := blk_frozen BK158.out 2; have hfz12_3 := blk_frozen BK158.out 3; have hfz12_4 := blk_frozen BK158.out 4))
    refine bodyPost_ret (results_cell_row rfl _ _ gb158 50 #[.int .i64 a0_0, .bool a0_1, .bool a0_2, .int .i64 a0_3, .int .i64 a0_4] (0, 0) _ rfl (by (with_reducible repeat (first | refine blk_drewN ?_ _ | refine blk_drew ?_ | refine blk_alloc ?_ _)); refine blk_put (cs := #[.int .i64 a0_0, .bool a0_1, .bool a0_2, .int .i64 a0_3, .int .i64 0]) ?_ 4 _ rfl; (with_reducible repeat (first | refine blk_drewN ?_ _ | refine blk_drew ?_ | refine blk_alloc ?_ _)); refine blk_put (cs := #[.int .i64 a0_0, .bool a0_1, .bool a0_2, .int .i64 0, .int .i64 0]) ?_ 3 _ rfl; (with_reducible repeat (first | refine blk_drewN ?_ _ | refine blk_drew ?_ | refine blk_alloc ?_ _)); refine blk_put (cs := #[.int .i64 a0_0, .bool a0_1, .bool false, .int .i64 0, .int .i64 0]) ?_ 2 _ rfl; (with_reducible repeat (first | refine blk_drewN ?_ _ | refine blk_drew ?_ | refine blk_alloc ?_ _)); refine blk_put (cs := #[.int .i64 a0_0, .bool false, .bool false, .int .i64 0, .int .i64 0]) ?_ 1 _ rfl; (with_reducible repeat (first | refine blk_drewN ?_ _ | refine blk_drew ?_ | refine blk_alloc ?_ _)); refine blk_put (cs := #[.int .i64 0, .bool false, .bool false, .int .i64 0, .int .i64 0]) ?_ 0 _ rfl; (with_reducible repeat (first | refine blk_drewN ?_ _ | refine blk_drew ?_ | refine blk_alloc ?_ _)); exact BK158.out) Tryz.underlying50 rfl (by kernel_rfl)) rfl ?_
    exact ⟨by first | rfl | (simp [errW_none, errW_some] <;> rfl) | (simp [*, errW_none, errW_some] <;> rfl), by repeat (first | (with_reducible first | exact HB.out | apply below_alloc | apply pw_below_drewN | apply below_drew1 | refine below_set ?_ GE157.out | refine below_set ?_ GE158.out) | exact HB.out)⟩
end Go.Proofs.YtgdbeiadlgkedaaGreatDoor.PFnHeaderBack
