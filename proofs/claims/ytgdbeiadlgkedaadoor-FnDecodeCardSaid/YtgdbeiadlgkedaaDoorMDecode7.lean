/- Contracts and plain laws, several texts in one. -/
import Derived.Test.YtgdbeiadlgkedaaDoorMDecode1
import Derived.Test.YtgdbeiadlgkedaaDoorMDecode2
import Derived.Test.YtgdbeiadlgkedaaDoorMDecode3
import Derived.Test.YtgdbeiadlgkedaaDoorMDecode6
import Derived.Test.YtgdbeiadlgkedaaDoorMDecode8
import Derived.Test.YtgdbeiadlgkedaaDoorMDecode9
import Derived.Test.YtgdbeiadlgkedaaDoorMDecode11
import Derived.Laws.CopyRow
import Derived.Test.YtgdbeiadlgkedaaDoorProg
import Derived.Below
import Derived.Deep.Draws
import Derived.Deep.AppendLies
import Derived.Maps.AppendAt
import Derived.OwnWalk
import Derived.Laws.BytesArg
import Derived.Laws.MakeOwn
import Derived.Laws.OwnMore
import Derived.Deep.OwnRows
import Derived.Tactics
import Derived.Lib.ConvBytes
import Derived.Laws.Slices
import Derived.WalkKit
import Derived.KernelRfl
import Derived.RowKit3
import Derived.Deep.LoopGhost
import Derived.Deep.QuietTactic
import Derived.BigQuiet
import Derived.WideLaws
import Derived.Deep.DeepCutAuto
import Derived.Deep.CutBlock
import Derived.Deep.RegionHeld3
import Derived.Laws.Rows
import Derived.Lib.AppendStr
import Derived.ArgAppend
import Derived.Laws.IdiomCopy
import Derived.OrdersHeld
import Derived.Laws.BitsLemmas
import Derived.RowKit
import Derived.LoopN
import Derived.Lib.Varint
set_option linter.unusedVariables false
set_option linter.unusedSimpArgs false
namespace Go.Proofs.YtgdbeiadlgkedaaDoor
open Go.RowKit PFnEncode
theorem empty_list0 : (⟨#[]⟩ : ByteArray).toList = [] := by rw [ByteArray.toList_eq]
theorem clean_3 (k : Nat) (a1 : Bool) (a2 a3 a4 : Int) (a5 : ByteArray) (a6 : Int) (a7 a8 : Bool) (a9 a10 : Int) : laws_codClean.f (k + 5) 3 a1 a2 a3 a4 a5 a6 a7 a8 a9 a10 = some (decide ((a1 = false ∧ a2 = 0 ∧ a3 = 0 ∧ a5.toList = [] ∧ a6 = 0 ∧ a7 = false ∧ a8 = false ∧ a9 = 0 ∧ a10 = 0) ∧ ((Go.bits .and .u64 (a4 / 4503599627370496) 2047 = 2047) → IntKind.u64.wrap (a4 * 4096) = 0))) := by
  simp only [laws_codClean.f, laws_codOf.f, laws_codPane.f, spec_CodClean.f, spec_codBare.f, spec_codBare.j0, spec_codBare.j1, spec_codBare.j2, spec_CodClean.j0, spec_CodClean.j1, spec_CodPaneIs.f, Option.bind_some, empty_list0]
  by_cases hc : (a1 = false ∧ a2 = 0 ∧ a3 = 0 ∧ a5.toList = [] ∧ a6 = 0 ∧ a7 = false ∧ a8 = false ∧ a9 = 0 ∧ a10 = 0) ∧ ((Go.bits .and .u64 (a4 / 4503599627370496) 2047 = 2047) → IntKind.u64.wrap (a4 * 4096) = 0)
  · rw [decide_eq_true hc]
    simp_all
  · rw [decide_eq_false hc]
    simp only [not_and] at hc
    simp
    (repeat' split) <;> simp_all
theorem clean_7 (k : Nat) (a1 : Bool) (a2 a3 a4 : Int) (a5 : ByteArray) (a6 : Int) (a7 a8 : Bool) (a9 a10 : Int) : laws_codClean.f (k + 5) 7 a1 a2 a3 a4 a5 a6 a7 a8 a9 a10 = some (decide ((a1 = false ∧ a2 = 0 ∧ a3 = 0 ∧ a5.toList = [] ∧ a6 = 0 ∧ a7 = false ∧ a8 = false ∧ a9 = 0 ∧ a10 = 0) ∧ (a4 < 4294967296 ∧ ((Go.bits .and .u64 (a4 / 8388608) 255 = 255) → Go.bits .and .u64 a4 8388607 = 0)))) := by
  simp only [laws_codClean.f, laws_codOf.f, laws_codPane.f, spec_CodClean.f, spec_codBare.f, spec_codBare.j0, spec_codBare.j1, spec_codBare.j2, spec_CodClean.j0, spec_CodClean.j1, spec_CodPaneIs.f, Option.bind_some, empty_list0]
  by_cases hc : (a1 = false ∧ a2 = 0 ∧ a3 = 0 ∧ a5.toList = [] ∧ a6 = 0 ∧ a7 = false ∧ a8 = false ∧ a9 = 0 ∧ a10 = 0) ∧ (a4 < 4294967296 ∧ ((Go.bits .and .u64 (a4 / 8388608) 255 = 255) → Go.bits .and .u64 a4 8388607 = 0))
  · rw [decide_eq_true hc]
    simp_all
  · rw [decide_eq_false hc]
    simp only [not_and] at hc
    simp
    (repeat' split) <;> simp_all
end Go.Proofs.YtgdbeiadlgkedaaDoor
set_option linter.unusedVariables false
set_option linter.unusedSimpArgs false
namespace Go.Proofs.YtgdbeiadlgkedaaDoor
open Go.RowKit Go.Proofs.YtgdbeiadlgkedaaDoorW.PrintWords Go.Proofs.YtgdbeiadlgkedaaDoorW.PrintLast Go.Proofs.YtgdbeiadlgkedaaDoorW.PrintMore
def BR (b g : Nat) (l : List UInt8) (w : World) : Prop :=
  ∃ lr cur, w.heap[b]? = some (.cells #[.slice (some ⟨g, 0, none⟩) l.length 64, .int .i64 0, .int .i8 lr] 129 (0, 0)) ∧ w.heap[g]? = some (.cells cur 5 (0, 0)) ∧ cur.size = 64 ∧ cur.toList.take l.length = Lib.byteCells l ∧ g ≠ b
def Kp (b g : Nat) (w w' : World) : Prop := w'.os = w.os ∧ w'.tape = w.tape ∧ w'.output = w.output ∧ w.heap.size ≤ w'.heap.size ∧ ∀ k, k < w.heap.size → k ≠ b → k ≠ g → w'.heap[k]? = w.heap[k]?
theorem Kp.trans {b g : Nat} {w w1 w2 : World} (h : Kp b g w w1) (k : Kp b g w1 w2) : Kp b g w w2 :=
  ⟨k.1.trans h.1, k.2.1.trans h.2.1, k.2.2.1.trans h.2.2.1, Nat.le_trans h.2.2.2.1 k.2.2.2.1, fun q hq hb hg => (k.2.2.2.2 q (Nat.lt_of_lt_of_le hq h.2.2.2.1) hb hg).trans (h.2.2.2.2 q hq hb hg)⟩
theorem Kp.at {b g : Nat} {w w' : World} (h : Kp b g w w') {a : Addr} {l : List UInt8} (hs : At w a l) (hlt : a.block < w.heap.size) (h1 : a.block ≠ b) (h2 : a.block ≠ g) : At w' a l := hs.kept (h.2.2.2.2 a.block hlt h1 h2)
end Go.Proofs.YtgdbeiadlgkedaaDoor
set_option linter.unusedVariables false
set_option linter.unusedSimpArgs false
namespace Go.Proofs.YtgdbeiadlgkedaaDoor
open Go.RowKit Go.Proofs.YtgdbeiadlgkedaaDoorW.PrintWords Go.Proofs.YtgdbeiadlgkedaaDoorW.PrintLast Go.Proofs.YtgdbeiadlgkedaaDoorW.PrintMore
theorem Kp.set {b g : Nat} {w w1 : World} (h : Kp b g w w1) (j : Nat) (u : Value) : Kp b g w (w1.setCell ⟨b, j, none⟩ u) :=
  ⟨h.1, h.2.1, h.2.2.1, by rw [World.size_setCell]; exact h.2.2.2.1, fun k hk h1 h2 => (Below.heap_setCell _ _ _ _ h1).trans (h.2.2.2.2 k hk h1 h2)⟩
theorem Kp.refl (b g : Nat) (w : World) : Kp b g w w := ⟨rfl, rfl, rfl, Nat.le_refl _, fun _ _ _ _ => rfl⟩
theorem Kp.row {b g : Nat} {w w1 : World} (h : Kp b g w w1) (cs : Array Value) : Kp b g w (w1.setRow g cs) :=
  ⟨h.1, h.2.1, h.2.2.1, by simp [World.setRow]; exact h.2.2.2.1, fun k hk h1 h2 => (setRow_other _ _ _ _ h2).trans (h.2.2.2.2 k hk h1 h2)⟩
end Go.Proofs.YtgdbeiadlgkedaaDoor
set_option linter.unusedVariables false
set_option linter.unusedSimpArgs false
namespace Go.Proofs.YtgdbeiadlgkedaaDoor
open Go.RowKit Go.Proofs.YtgdbeiadlgkedaaDoorW.PrintWords Go.Proofs.YtgdbeiadlgkedaaDoorW.PrintLast Go.Proofs.YtgdbeiadlgkedaaDoorW.PrintMore
theorem Kp.below {b g : Nat} {w w1 : World} (h : Below w.heap.size w w1) : Kp b g w w1 := ⟨h.os, h.tape, h.output, h.size, fun k hk _ _ => h.block k hk⟩
theorem BR.below {b g : Nat} {l : List UInt8} {w w1 : World} (h : BR b g l w) (hb : Below w.heap.size w w1) : BR b g l w1 := by
  obtain ⟨lr, cur, h1, h2, h3, h4, h5⟩ := h
  exact ⟨lr, cur, blk_below h1 hb, blk_below h2 hb, h3, h4, h5⟩
end Go.Proofs.YtgdbeiadlgkedaaDoor
namespace Go.Proofs.YtgdbeiadlgkedaaDoor.PFnPaneEarly
open Go.RowKit Go.Proofs.YtgdbeiadlgkedaaDoorW.PrintWords Go.Proofs.YtgdbeiadlgkedaaDoorW.PrintLast Go.Proofs.YtgdbeiadlgkedaaDoorW.PrintMore
attribute [local go_sem] max2_int min2_int max_two min_two max_three min_three max_four min_four
set_option linter.unusedVariables false
set_option linter.unusedSimpArgs false
def errW : Option Int → Value
  | none => .nilIface
  | some c => .iface 0 (.int .i64 c)
theorem errW_none : errW none = .nilIface := rfl
theorem errW_some (c : Int) : errW (some c) = .iface 0 (.int .i64 c) := rfl
end Go.Proofs.YtgdbeiadlgkedaaDoor.PFnPaneEarly
set_option linter.unusedVariables false
set_option linter.unusedSimpArgs false
namespace Go.Proofs.YtgdbeiadlgkedaaDoor
open Go.RowKit Go.Proofs.YtgdbeiadlgkedaaDoorW.PrintWords Go.Proofs.YtgdbeiadlgkedaaDoorW.PrintLast Go.Proofs.YtgdbeiadlgkedaaDoorW.PrintMore
def SB (t : ByteArray) (w : World) (o : Obj) (w' : World) : Prop := w'.cell? ⟨w.heap.size, 5, none⟩ = some (.string t) ∧ w'.heap[w.heap.size]? = some o ∧ Below w.heap.size w w'
theorem SB.start (t : ByteArray) (w : World) (cs : Array Value) (h : cs[5]? = some (.string t)) : SB t w (.cells cs 37) (w.alloc (.cells cs 37)).drew :=
  ⟨(blk_cell (heap_alloc_new w (.cells cs 37)) 5).trans h, heap_alloc_new w (.cells cs 37), below_drew (below_alloc (Below.refl _ w) _)⟩
theorem SB.step {t : ByteArray} {w x y : World} {o : Obj} (h : SB t w o x) (hb : Below x.heap.size x y) : SB t w o y := by
  obtain ⟨h1, h2, h3⟩ := h
  have hl := blk_lt h2
  exact ⟨(hb.cell (p := ⟨w.heap.size, 5, none⟩) hl).trans h1, (hb.block _ hl).trans h2, below_then h3 h3.size hb⟩
theorem str_ext0 {s : ByteArray} {l : List UInt8} (h : s.data.toList = l) : s = ⟨l.toArray⟩ := by
  cases s with
  | mk d => simp only at h; subst h; simp
theorem xor_sign (n : Int) (h0 : -9223372036854775808 ≤ n) (h1 : n ≤ 9223372036854775807) : Go.bits .xor .u64 (u64of n : Int) 9223372036854775808 = ((n + 9223372036854775808).toNat : Int) := by
  have hl := u64of_lt n
  have h := bits_xor_u64_nat (u64of n) 9223372036854775808 hl (by decide)
  have e : ((9223372036854775808 : Nat) : Int) = 9223372036854775808 := rfl
  rw [e] at h
  rw [h]
  have hm : (u64of n ^^^ 9223372036854775808) % 2 ^ 63 = u64of n % 2 ^ 63 := by rw [Nat.xor_mod_two_pow]; simp
  have hd : (u64of n ^^^ 9223372036854775808) / 2 ^ 63 = (u64of n / 2 ^ 63) ^^^ 1 := by rw [Nat.xor_div_two_pow]
  have e2 : (2 : Nat) ^ 63 = 9223372036854775808 := by decide
  rw [e2] at hm hd
  have hx : u64of n = (n % 18446744073709551616).toNat := rfl
  rcases (show u64of n / 9223372036854775808 = 0 ∨ u64of n / 9223372036854775808 = 1 by omega) with hq | hq
  · rw [hq] at hd
    have : (0 : Nat) ^^^ 1 = 1 := by decide
    rw [this] at hd
    omega
  · rw [hq] at hd
    have : (1 : Nat) ^^^ 1 = 0 := by decide
    rw [this] at hd
    omega
end Go.Proofs.YtgdbeiadlgkedaaDoor
set_option linter.unusedVariables false
set_option linter.unusedSimpArgs false
namespace Go.Proofs.YtgdbeiadlgkedaaDoor
open Go.RowKit PFnEncode Go.Proofs.YtgdbeiadlgkedaaDoorW.PrintWords Go.Proofs.YtgdbeiadlgkedaaDoorW.PrintLast Go.Proofs.YtgdbeiadlgkedaaDoorW.PrintMore
theorem cells11 {w : World} {k T : Nat} {v0 v1 v2 v3 v4 v5 v6 v7 v8 v9 v10 : Value} (h : w.heap[k]? = some (.cells #[v0, v1, v2, v3, v4, v5, v6, v7, v8, v9, v10] T (0, 0))) : w.cell? ⟨k, 0, none⟩ = some v0 ∧ w.cell? ⟨k, 1, none⟩ = some v1 ∧ w.cell? ⟨k, 2, none⟩ = some v2 ∧ w.cell? ⟨k, 3, none⟩ = some v3 ∧ w.cell? ⟨k, 4, none⟩ = some v4 ∧ w.cell? ⟨k, 5, none⟩ = some v5 ∧ w.cell? ⟨k, 6, none⟩ = some v6 ∧ w.cell? ⟨k, 7, none⟩ = some v7 ∧ w.cell? ⟨k, 8, none⟩ = some v8 ∧ w.cell? ⟨k, 9, none⟩ = some v9 ∧ w.cell? ⟨k, 10, none⟩ = some v10 :=
  ⟨(blk_cell h 0).trans rfl, (blk_cell h 1).trans rfl, (blk_cell h 2).trans rfl, (blk_cell h 3).trans rfl, (blk_cell h 4).trans rfl, (blk_cell h 5).trans rfl, (blk_cell h 6).trans rfl, (blk_cell h 7).trans rfl, (blk_cell h 8).trans rfl, (blk_cell h 9).trans rfl, (blk_cell h 10).trans rfl⟩
theorem codOf_eq (a0 : Int) (fl : Bool) (n u b : Int) (t : ByteArray) (pt : Int) (pf pl : Bool) (pi pn : Int) : laws_codOf.f a0 fl n u b t pt pf pl pi pn = some (a0, fl, n, u, b, t, pt, pf, pl, pi, pn) := rfl
end Go.Proofs.YtgdbeiadlgkedaaDoor
namespace Go.Proofs.YtgdbeiadlgkedaaDoor.PFnDecode
open Go.RowKit Go.Proofs.YtgdbeiadlgkedaaDoorW.PrintWords Go.Proofs.YtgdbeiadlgkedaaDoorW.PrintLast Go.Proofs.YtgdbeiadlgkedaaDoorW.PrintMore
attribute [local go_sem] max2_int min2_int max_two min_two max_three min_three max_four min_four
set_option linter.unusedVariables false
set_option linter.unusedSimpArgs false
def errW : Option Int → Value
  | none => .nilIface
  | some c => .iface 0 (.int .i64 c)
theorem errW_none : errW none = .nilIface := rfl
theorem errW_some (c : Int) : errW (some c) = .iface 0 (.int .i64 c) := rfl
end Go.Proofs.YtgdbeiadlgkedaaDoor.PFnDecode
set_option linter.unusedVariables false
set_option linter.unusedSimpArgs false
namespace Go.Proofs.YtgdbeiadlgkedaaDoor.PFnDecode
open Go.RowKit Go.Proofs.YtgdbeiadlgkedaaDoorW.PrintWords Go.Proofs.YtgdbeiadlgkedaaDoorW.PrintLast Go.Proofs.YtgdbeiadlgkedaaDoorW.PrintMore
def spec_codNumber.l0 : Nat → ByteArray → Int → Int → Int → Option (Int × Int)
  | 0, _, _, _, _ => none
  | k + 1, x0, x6, x12, x13 => if x13 < x12 then (if 0 ≤ x13 then (if x13 < (x0.size : Int) then (spec_codNumber.l0 k x0 (Go.bits .or .u64 (IntKind.u64.wrap (x6 * 256)) (IntKind.u64.wrap (bt x0 x13))) x12 (wrap64 (x13 + 1))) else (none)) else (none)) else (some (x6, 0))
def spec_codNumber.f (k : Nat) (a0 : ByteArray) (a1 : Int) : Option (Int × Int) := if (a0.size : Int) < a1 then (some (0, 1)) else (spec_codNumber.l0 k a0 0 a1 0)
theorem spec_codNumber.mono_l : ∀ k, (∀ y0 y1 y2 y3, LeO (spec_codNumber.l0 k y0 y1 y2 y3) (spec_codNumber.l0 (k + 1) y0 y1 y2 y3))
  | 0 => fun _ _ _ _ r h => by simp [spec_codNumber.l0] at h
  | k + 1 => by
    have ih0 := spec_codNumber.mono_l k
    · intro y0 y1 y2 y3
      unfold spec_codNumber.l0
      repeat' first
      | (with_reducible exact ih0 _ _ _ _)
      | (with_reducible exact LeO.refl _)
      | (with_reducible exact LeO.none _)
      | (with_reducible refine LeO.ite ?_ ?_)
      | (with_reducible refine LeO.bind ?_ (fun _ => ?_))
      | exact ih0 _ _ _ _
      | exact LeO.none _
      | refine LeO.ite ?_ ?_
      | refine LeO.bind ?_ (fun _ => ?_)
theorem spec_codNumber.mono : ∀ a0 a1 k, LeO (spec_codNumber.f k a0 a1) (spec_codNumber.f (k + 1) a0 a1) := by
  intro a0 a1 k
  have ih0 := spec_codNumber.mono_l k
  unfold spec_codNumber.f
  repeat' first
      | (with_reducible exact ih0 _ _ _ _)
      | (with_reducible exact LeO.refl _)
      | (with_reducible exact LeO.none _)
      | (with_reducible refine LeO.ite ?_ ?_)
      | (with_reducible refine LeO.bind ?_ (fun _ => ?_))
      | exact ih0 _ _ _ _
      | exact LeO.none _
      | refine LeO.ite ?_ ?_
      | refine LeO.bind ?_ (fun _ => ?_)
set_option maxHeartbeats 8000000 in
set_option maxRecDepth 100000 in
theorem spec_codNumber.calls (k : Nat) (a0 : ByteArray) (a1 : Int) (r1 : Int) (r2 : Int) (w : World) (h : spec_codNumber.f k a0 a1 = some (r1, r2)) :
    Calls Tryd.prog 66 #[.string a0, .int .i64 a1] w fun e w' => e = .returned (.tuple #[.int .u64 r1, .int .i64 r2]) ∧ Drawn0 w w' := by
  have H : (if (a0.size : Int) < a1 then (some (0, 1)) else (spec_codNumber.l0 k a0 0 a1 0)) = some (r1, r2) := h
  clear h
  by_cases c3 : (a0.size : Int) < a1
  · rw [if_pos c3] at H
    have c3b0 : decide ((a0.size : Int) < a1) = true := decide_eq_true c3
    clear c3
    simp only [Option.some.injEq, Prod.mk.injEq] at H
    obtain ⟨rfl, rfl⟩ := H
    go_enter Tryd.func66, Tryd.ntmps66
    go_wp2
    go_ret2
    exact ⟨by first | rfl | (simp; done) | (simp [*]; done), by repeat (first | exact Drawn0.refl _ | apply Drawn0.step)⟩
  · rw [if_neg c3] at H
    have c3b0 : decide ((a0.size : Int) < a1) = false := decide_eq_false c3
    clear c3
    have H' := Aside0.mk H
    clear H
    go_enter Tryd.func66, Tryd.ntmps66
    go_wp2
    go_loopg [6, 13] k (fun kq v6 v13 w' => ∃ (x6_1 : Int) (x13_1 : Int), v6 = .int .u64 x6_1 ∧ v13 = .int .i64 x13_1 ∧ Aside0 (spec_codNumber.l0 kq a0 x6_1 a1 x13_1 = some (r1, r2)) ∧ Aside0 (kq ≤ k) ∧ Drawn0 w w')
    case atStart => exact ⟨(0), (0), (by first | rfl | (simp; done) | (simp [*]; done)), (by first | rfl | (simp; done) | (simp [*]; done)), H', ⟨Nat.le_refl _⟩, by repeat (first | exact Drawn0.refl _ | apply Drawn0.step)⟩
    case round =>
      clear H'
      try clear p2
      try clear c3
      try clear c3b0
      obtain ⟨x6_1, x13_1, rfl, rfl, HA, HK1, ⟨m1, rfl⟩⟩ := hrel
      cases gk with
      | zero => exact absurd HA.out (by simp [spec_codNumber.l0])
      | succ k1 =>
        have H := HA.out
        clear HA
        simp only [spec_codNumber.l0] at H
        by_cases c4 : x13_1 < a1
        · rw [if_pos c4] at H
          have c4b0 : decide (x13_1 < a1) = true := decide_eq_true c4
          clear c4
          by_cases c5 : 0 ≤ x13_1
          · rw [if_pos c5] at H
            have c5b0 : decide (0 ≤ x13_1) = true := decide_eq_true c5
            clear c5
            by_cases c6 : x13_1 < (a0.size : Int)
            · rw [if_pos c6] at H
              have c6b0 : decide (x13_1 < (a0.size : Int)) = true := decide_eq_true c6
              clear c6
              have H' := Aside0.mk H
              clear H
              have p7 : 0 ≤ (x13_1 : Int) := of_decide_eq_true (by first | (with_reducible assumption) | assumption)
              have q7 : x13_1 < (a0.size : Int) := of_decide_eq_true (by first | (with_reducible assumption) | assumption)
              have hx7 := bt_at a0 x13_1
              replace p7 := eq_true p7
              replace q7 := eq_true q7
              go_wp2
              go_roundg k1
              case measure => have := HK1.out; omega
              case rel => exact ⟨(Go.bits .or .u64 (IntKind.u64.wrap (x6_1 * 256)) (IntKind.u64.wrap (bt a0 x13_1))), (wrap64 (x13_1 + 1)), (by first | rfl | (simp; done) | (simp [*]; done)), (by first | rfl | (simp; done) | (simp [*]; done)), H', ⟨by have := HK1.out; omega⟩, by repeat (first | exact Drawn0.refl _ | apply Drawn0.step)⟩
            · rw [if_neg c6] at H
              exact absurd H (by simp)
          · rw [if_neg c5] at H
            exact absurd H (by simp)
        · rw [if_neg c4] at H
          have c4b0 : decide (x13_1 < a1) = false := decide_eq_false c4
          clear c4
          simp only [Option.some.injEq, Prod.mk.injEq] at H
          obtain ⟨rfl, rfl⟩ := H
          go_wp2
          go_ret2
          exact ⟨by first | rfl | (simp; done) | (simp [*]; done), by repeat (first | exact Drawn0.refl _ | apply Drawn0.step)⟩
end Go.Proofs.YtgdbeiadlgkedaaDoor.PFnDecode
set_option linter.unusedVariables false
set_option linter.unusedSimpArgs false
namespace Go.Proofs.YtgdbeiadlgkedaaDoor
open Go.RowKit PFnDecode Go.Proofs.YtgdbeiadlgkedaaDoorW.PrintWords Go.Proofs.YtgdbeiadlgkedaaDoorW.PrintLast Go.Proofs.YtgdbeiadlgkedaaDoorW.PrintMore
theorem bt_cons (s : ByteArray) (i : Nat) (c : UInt8) (r : List UInt8) (h : s.data.toList.drop i = c :: r) : bt s (i : Int) = (c.toNat : Int) ∧ i < s.size := by
  have hl : i < s.size := by
    have := congrArg List.length h
    simp only [List.length_drop, Array.length_toList, List.length_cons] at this
    show i < s.data.size
    omega
  refine ⟨?_, hl⟩
  unfold bt
  rw [dif_pos (by simpa using hl)]
  have := get_at s i c r h hl
  simp only [Int.toNat_natCast, this]
theorem beNat_snoc (l : List UInt8) (x : UInt8) : Lib.beNat (l ++ [x]) = Lib.beNat l * 256 + x.toNat := by
  rw [Lib.beNat_eq, Lib.beNat_eq, List.reverse_append, List.reverse_singleton, List.singleton_append, Lib.leNat]; omega
theorem num_l0 (s : ByteArray) (z : Nat) (hz : z ≤ 8) (hs : z ≤ s.size) : ∀ (d i k : Nat), i + d = z → d + 1 ≤ k → spec_codNumber.l0 k s ((Lib.beNat (s.data.toList.take i) : Nat) : Int) (z : Int) (i : Int) = some (((Lib.beNat (s.data.toList.take z) : Nat) : Int), 0) := by
  intro d
  induction d with
  | zero =>
    intro i k hd hk
    obtain ⟨k, rfl⟩ : ∃ k', k = k' + 1 := ⟨k - 1, by omega⟩
    rw [spec_codNumber.l0, if_neg (by omega)]
    obtain rfl : i = z := by omega
    rfl
  | succ d ih =>
    intro i k hd hk
    obtain ⟨k, rfl⟩ : ∃ k', k = k' + 1 := ⟨k - 1, by omega⟩
    have hlt : i < s.data.toList.length := by rw [Array.length_toList]; show i < s.size; omega
    have hcr := List.drop_eq_getElem_cons hlt
    obtain ⟨hc, hl2⟩ := bt_cons s i _ _ hcr
    rw [spec_codNumber.l0, if_pos (by omega), if_pos (by omega), if_pos (by omega), hc]
    have hw1 : wrap64 ((i : Int) + 1) = ((i + 1 : Nat) : Int) := by unfold wrap64; omega
    rw [hw1]
    have hc256 := (s.data.toList[i]).toNat_lt
    have hL : (s.data.toList.take i).length = i := by rw [List.length_take]; omega
    have hb : Lib.beNat (s.data.toList.take i) < 256 ^ i := by
      have := beNat_lt (s.data.toList.take i); rwa [hL] at this
    have hp : 256 ^ i ≤ 256 ^ 7 := Nat.pow_le_pow_right (by omega) (by omega)
    have e7 : (256 : Nat) ^ 7 = 72057594037927936 := by decide
    have hn : Lib.beNat (s.data.toList.take (i + 1)) = Lib.beNat (s.data.toList.take i) * 256 + (s.data.toList[i]).toNat := by
      rw [List.take_succ_eq_append_getElem hlt, beNat_snoc]
    have e1 : IntKind.u64.wrap (((Lib.beNat (s.data.toList.take i) : Nat) : Int) * 256) = ((Lib.beNat (s.data.toList.take i) * 256 : Nat) : Int) := by rw [IntKind.wrap_u64]; omega
    have e2 : IntKind.u64.wrap ((s.data.toList[i]).toNat : Int) = ((s.data.toList[i]).toNat : Int) := by rw [IntKind.wrap_u64]; omega
    rw [e1, e2, bits_or_u64_nat _ _ (by omega) (by omega)]
    have e3 : Lib.beNat (s.data.toList.take i) * 256 ||| (s.data.toList[i]).toNat = Lib.beNat (s.data.toList.take (i + 1)) := by
      rw [hn]
      have := or_shl (s.data.toList[i]).toNat (Lib.beNat (s.data.toList.take i)) 8 hc256
      rw [show (2 : Nat) ^ 8 = 256 by decide] at this
      rw [Nat.or_comm, this, Nat.add_comm]
    rw [e3]
    exact ih (i + 1) k (by omega) (by omega)
theorem num_f (s : ByteArray) (z : Nat) (hz : z ≤ 8) (hs : z ≤ s.size) : spec_codNumber.f 10 s (z : Int) = some (((Lib.beNat (s.data.toList.take z) : Nat) : Int), 0) := by
  unfold spec_codNumber.f
  rw [if_neg (by omega)]
  have := num_l0 s z hz hs z 0 10 (by omega) (by omega)
  rw [List.take_zero] at this
  exact this
theorem num_bad (s : ByteArray) (z : Nat) (hs : s.size < z) : spec_codNumber.f 10 s (z : Int) = some (0, 1) := by
  unfold spec_codNumber.f
  rw [if_pos (by omega)]
end Go.Proofs.YtgdbeiadlgkedaaDoor
set_option linter.unusedVariables false
set_option linter.unusedSimpArgs false
namespace Go.Proofs.YtgdbeiadlgkedaaDoor
open Go.RowKit PFnDecode Go.Proofs.YtgdbeiadlgkedaaDoorW.PrintWords Go.Proofs.YtgdbeiadlgkedaaDoorW.PrintLast Go.Proofs.YtgdbeiadlgkedaaDoorW.PrintMore
theorem set13 {W : World} {b : Nat} {a0 a1 a2 a3 a4 a5 a6 a7 a8 a9 a10 a11 a12 : Value} {T : TypeId} {fr : Nat × Nat} (h : W.heap[b]? = some (.cells #[a0, a1, a2, a3, a4, a5, a6, a7, a8, a9, a10, a11, a12] T fr)) (v0 v1 v2 v3 v4 v5 v6 v7 v8 v9 v10 v11 v12 : Value) :
    (((((((((((((W.setCell ⟨b, 0, none⟩ v0).setCell ⟨b, 1, none⟩ v1).setCell ⟨b, 2, none⟩ v2).setCell ⟨b, 3, none⟩ v3).setCell ⟨b, 4, none⟩ v4).setCell ⟨b, 5, none⟩ v5).setCell ⟨b, 6, none⟩ v6).setCell ⟨b, 7, none⟩ v7).setCell ⟨b, 8, none⟩ v8).setCell ⟨b, 9, none⟩ v9).setCell ⟨b, 10, none⟩ v10).setCell ⟨b, 11, none⟩ v11).setCell ⟨b, 12, none⟩ v12).heap[b]? = some (.cells #[v0, v1, v2, v3, v4, v5, v6, v7, v8, v9, v10, v11, v12] T fr) := by
  have h0 : (W.setCell ⟨b, 0, none⟩ v0).heap[b]? = some (.cells #[v0, a1, a2, a3, a4, a5, a6, a7, a8, a9, a10, a11, a12] T fr) := (Lib.heap_setCell_same (i := 0) h v0).trans rfl
  have h1 : ((W.setCell ⟨b, 0, none⟩ v0).setCell ⟨b, 1, none⟩ v1).heap[b]? = some (.cells #[v0, v1, a2, a3, a4, a5, a6, a7, a8, a9, a10, a11, a12] T fr) := (Lib.heap_setCell_same (i := 1) h0 v1).trans rfl
  have h2 : (((W.setCell ⟨b, 0, none⟩ v0).setCell ⟨b, 1, none⟩ v1).setCell ⟨b, 2, none⟩ v2).heap[b]? = some (.cells #[v0, v1, v2, a3, a4, a5, a6, a7, a8, a9, a10, a11, a12] T fr) := (Lib.heap_setCell_same (i := 2) h1 v2).trans rfl
  have h3 : ((((W.setCell ⟨b, 0, none⟩ v0).setCell ⟨b, 1, none⟩ v1).setCell ⟨b, 2, none⟩ v2).setCell ⟨b, 3, none⟩ v3).heap[b]? = some (.cells #[v0, v1, v2, v3, a4, a5, a6, a7, a8, a9, a10, a11, a12] T fr) := (Lib.heap_setCell_same (i := 3) h2 v3).trans rfl
  have h4 : (((((W.setCell ⟨b, 0, none⟩ v0).setCell ⟨b, 1, none⟩ v1).setCell ⟨b, 2, none⟩ v2).setCell ⟨b, 3, none⟩ v3).setCell ⟨b, 4, none⟩ v4).heap[b]? = some (.cells #[v0, v1, v2, v3, v4, a5, a6, a7, a8, a9, a10, a11, a12] T fr) := (Lib.heap_setCell_same (i := 4) h3 v4).trans rfl
  have h5 : ((((((W.setCell ⟨b, 0, none⟩ v0).setCell ⟨b, 1, none⟩ v1).setCell ⟨b, 2, none⟩ v2).setCell ⟨b, 3, none⟩ v3).setCell ⟨b, 4, none⟩ v4).setCell ⟨b, 5, none⟩ v5).heap[b]? = some (.cells #[v0, v1, v2, v3, v4, v5, a6, a7, a8, a9, a10, a11, a12] T fr) := (Lib.heap_setCell_same (i := 5) h4 v5).trans rfl
  have h6 : (((((((W.setCell ⟨b, 0, none⟩ v0).setCell ⟨b, 1, none⟩ v1).setCell ⟨b, 2, none⟩ v2).setCell ⟨b, 3, none⟩ v3).setCell ⟨b, 4, none⟩ v4).setCell ⟨b, 5, none⟩ v5).setCell ⟨b, 6, none⟩ v6).heap[b]? = some (.cells #[v0, v1, v2, v3, v4, v5, v6, a7, a8, a9, a10, a11, a12] T fr) := (Lib.heap_setCell_same (i := 6) h5 v6).trans rfl
  have h7 : ((((((((W.setCell ⟨b, 0, none⟩ v0).setCell ⟨b, 1, none⟩ v1).setCell ⟨b, 2, none⟩ v2).setCell ⟨b, 3, none⟩ v3).setCell ⟨b, 4, none⟩ v4).setCell ⟨b, 5, none⟩ v5).setCell ⟨b, 6, none⟩ v6).setCell ⟨b, 7, none⟩ v7).heap[b]? = some (.cells #[v0, v1, v2, v3, v4, v5, v6, v7, a8, a9, a10, a11, a12] T fr) := (Lib.heap_setCell_same (i := 7) h6 v7).trans rfl
  have h8 : (((((((((W.setCell ⟨b, 0, none⟩ v0).setCell ⟨b, 1, none⟩ v1).setCell ⟨b, 2, none⟩ v2).setCell ⟨b, 3, none⟩ v3).setCell ⟨b, 4, none⟩ v4).setCell ⟨b, 5, none⟩ v5).setCell ⟨b, 6, none⟩ v6).setCell ⟨b, 7, none⟩ v7).setCell ⟨b, 8, none⟩ v8).heap[b]? = some (.cells #[v0, v1, v2, v3, v4, v5, v6, v7, v8, a9, a10, a11, a12] T fr) := (Lib.heap_setCell_same (i := 8) h7 v8).trans rfl
  have h9 : ((((((((((W.setCell ⟨b, 0, none⟩ v0).setCell ⟨b, 1, none⟩ v1).setCell ⟨b, 2, none⟩ v2).setCell ⟨b, 3, none⟩ v3).setCell ⟨b, 4, none⟩ v4).setCell ⟨b, 5, none⟩ v5).setCell ⟨b, 6, none⟩ v6).setCell ⟨b, 7, none⟩ v7).setCell ⟨b, 8, none⟩ v8).setCell ⟨b, 9, none⟩ v9).heap[b]? = some (.cells #[v0, v1, v2, v3, v4, v5, v6, v7, v8, v9, a10, a11, a12] T fr) := (Lib.heap_setCell_same (i := 9) h8 v9).trans rfl
  have h10 : (((((((((((W.setCell ⟨b, 0, none⟩ v0).setCell ⟨b, 1, none⟩ v1).setCell ⟨b, 2, none⟩ v2).setCell ⟨b, 3, none⟩ v3).setCell ⟨b, 4, none⟩ v4).setCell ⟨b, 5, none⟩ v5).setCell ⟨b, 6, none⟩ v6).setCell ⟨b, 7, none⟩ v7).setCell ⟨b, 8, none⟩ v8).setCell ⟨b, 9, none⟩ v9).setCell ⟨b, 10, none⟩ v10).heap[b]? = some (.cells #[v0, v1, v2, v3, v4, v5, v6, v7, v8, v9, v10, a11, a12] T fr) := (Lib.heap_setCell_same (i := 10) h9 v10).trans rfl
  have h11 : ((((((((((((W.setCell ⟨b, 0, none⟩ v0).setCell ⟨b, 1, none⟩ v1).setCell ⟨b, 2, none⟩ v2).setCell ⟨b, 3, none⟩ v3).setCell ⟨b, 4, none⟩ v4).setCell ⟨b, 5, none⟩ v5).setCell ⟨b, 6, none⟩ v6).setCell ⟨b, 7, none⟩ v7).setCell ⟨b, 8, none⟩ v8).setCell ⟨b, 9, none⟩ v9).setCell ⟨b, 10, none⟩ v10).setCell ⟨b, 11, none⟩ v11).heap[b]? = some (.cells #[v0, v1, v2, v3, v4, v5, v6, v7, v8, v9, v10, v11, a12] T fr) := (Lib.heap_setCell_same (i := 11) h10 v11).trans rfl
  have h12 : (((((((((((((W.setCell ⟨b, 0, none⟩ v0).setCell ⟨b, 1, none⟩ v1).setCell ⟨b, 2, none⟩ v2).setCell ⟨b, 3, none⟩ v3).setCell ⟨b, 4, none⟩ v4).setCell ⟨b, 5, none⟩ v5).setCell ⟨b, 6, none⟩ v6).setCell ⟨b, 7, none⟩ v7).setCell ⟨b, 8, none⟩ v8).setCell ⟨b, 9, none⟩ v9).setCell ⟨b, 10, none⟩ v10).setCell ⟨b, 11, none⟩ v11).setCell ⟨b, 12, none⟩ v12).heap[b]? = some (.cells #[v0, v1, v2, v3, v4, v5, v6, v7, v8, v9, v10, v11, v12] T fr) := (Lib.heap_setCell_same (i := 12) h11 v12).trans rfl
  exact h12
theorem set13_below {W : World} {b B : Nat} (hb : B ≤ b) (v0 v1 v2 v3 v4 v5 v6 v7 v8 v9 v10 v11 v12 : Value) : Below B W (((((((((((((W.setCell ⟨b, 0, none⟩ v0).setCell ⟨b, 1, none⟩ v1).setCell ⟨b, 2, none⟩ v2).setCell ⟨b, 3, none⟩ v3).setCell ⟨b, 4, none⟩ v4).setCell ⟨b, 5, none⟩ v5).setCell ⟨b, 6, none⟩ v6).setCell ⟨b, 7, none⟩ v7).setCell ⟨b, 8, none⟩ v8).setCell ⟨b, 9, none⟩ v9).setCell ⟨b, 10, none⟩ v10).setCell ⟨b, 11, none⟩ v11).setCell ⟨b, 12, none⟩ v12) := ((((((((((((((Below.refl B W).setCell (p := ⟨b, 0, none⟩) hb v0).setCell (p := ⟨b, 1, none⟩) hb v1).setCell (p := ⟨b, 2, none⟩) hb v2).setCell (p := ⟨b, 3, none⟩) hb v3).setCell (p := ⟨b, 4, none⟩) hb v4).setCell (p := ⟨b, 5, none⟩) hb v5).setCell (p := ⟨b, 6, none⟩) hb v6).setCell (p := ⟨b, 7, none⟩) hb v7).setCell (p := ⟨b, 8, none⟩) hb v8).setCell (p := ⟨b, 9, none⟩) hb v9).setCell (p := ⟨b, 10, none⟩) hb v10).setCell (p := ⟨b, 11, none⟩) hb v11).setCell (p := ⟨b, 12, none⟩) hb v12)
theorem laid13 {X : World} {b : Nat} {v0 v1 v2 v3 v4 v5 v6 v7 v8 v9 v10 v11 v12 : Value} {T : TypeId} (h : X.heap[b]? = some (.cells #[v0, v1, v2, v3, v4, v5, v6, v7, v8, v9, v10, v11, v12] T (0, 0))) :
    X.cell? ⟨b, 0, none⟩ = some v0 ∧ X.cell? ⟨b, 1, none⟩ = some v1 ∧ X.cell? ⟨b, 2, none⟩ = some v2 ∧ X.cell? ⟨b, 3, none⟩ = some v3 ∧ X.cell? ⟨b, 4, none⟩ = some v4 ∧ X.cell? ⟨b, 5, none⟩ = some v5 ∧ X.cell? ⟨b, 6, none⟩ = some v6 ∧ X.cell? ⟨b, 7, none⟩ = some v7 ∧ X.cell? ⟨b, 8, none⟩ = some v8 ∧ X.cell? ⟨b, 9, none⟩ = some v9 ∧ X.cell? ⟨b, 10, none⟩ = some v10 ∧ X.cell? ⟨b, 11, none⟩ = some v11 ∧ X.cell? ⟨b, 12, none⟩ = some v12 :=
  ⟨(blk_cell h 0).trans rfl, (blk_cell h 1).trans rfl, (blk_cell h 2).trans rfl, (blk_cell h 3).trans rfl, (blk_cell h 4).trans rfl, (blk_cell h 5).trans rfl, (blk_cell h 6).trans rfl, (blk_cell h 7).trans rfl, (blk_cell h 8).trans rfl, (blk_cell h 9).trans rfl, (blk_cell h 10).trans rfl, (blk_cell h 11).trans rfl, (blk_cell h 12).trans rfl⟩
theorem open13 {X : World} {b : Nat} {cs : Array Value} {T : TypeId} (h : X.heap[b]? = some (.cells cs T (0, 0))) :
    X.frozen? ⟨b, 0, none⟩ = false ∧ X.frozen? ⟨b, 1, none⟩ = false ∧ X.frozen? ⟨b, 2, none⟩ = false ∧ X.frozen? ⟨b, 3, none⟩ = false ∧ X.frozen? ⟨b, 4, none⟩ = false ∧ X.frozen? ⟨b, 5, none⟩ = false ∧ X.frozen? ⟨b, 6, none⟩ = false ∧ X.frozen? ⟨b, 7, none⟩ = false ∧ X.frozen? ⟨b, 8, none⟩ = false ∧ X.frozen? ⟨b, 9, none⟩ = false ∧ X.frozen? ⟨b, 10, none⟩ = false ∧ X.frozen? ⟨b, 11, none⟩ = false ∧ X.frozen? ⟨b, 12, none⟩ = false :=
  ⟨blk_frozen h 0, blk_frozen h 1, blk_frozen h 2, blk_frozen h 3, blk_frozen h 4, blk_frozen h 5, blk_frozen h 6, blk_frozen h 7, blk_frozen h 8, blk_frozen h 9, blk_frozen h 10, blk_frozen h 11, blk_frozen h 12⟩
theorem wrap32_k (n : Int) : IntKind.i32.wrap n = wrap32 n := by simp [IntKind.wrap, IntKind.bits, IntKind.signed, wrap32]; omega
theorem num_any (s : ByteArray) (z : Nat) (hz : z ≤ 8) (hs : z ≤ s.size) (W : World) : Calls Tryd.prog 66 #[.string s, .int .i64 (z : Int)] W fun e w' => e = .returned (.tuple #[.int .u64 (Lib.beNat (s.data.toList.take z) : Nat), .int .i64 0]) ∧ Below W.heap.size W w' :=
  (spec_codNumber.calls 10 s z _ _ W (num_f s z hz hs)).mono fun _ _ ⟨a, b⟩ => ⟨a, b.below⟩
theorem num_short (s : ByteArray) (z : Nat) (hs : s.size < z) (W : World) : Calls Tryd.prog 66 #[.string s, .int .i64 (z : Int)] W fun e w' => e = .returned (.tuple #[.int .u64 ((0 : Nat) : Int), .int .i64 1]) ∧ Below W.heap.size W w' :=
  (spec_codNumber.calls 10 s z _ _ W (num_bad s z hs)).mono fun _ _ ⟨a, b⟩ => ⟨a, b.below⟩
theorem xor_time (z : Nat) (hz : z < 18446744073709551616) : ∃ V : Nat, bits .xor .u64 (z : Int) 9223372036854775808 = (V : Int) ∧ wrap64 (V : Int) = wrap64 (wrap64 (z : Int) + -9223372036854775808) := by
  have hu : u64of (wrap64 (z : Int)) = z := by unfold u64of wrap64; omega
  have h := xor_sign (wrap64 (z : Int)) (by unfold wrap64; omega) (by unfold wrap64; omega)
  rw [hu] at h
  refine ⟨_, h, ?_⟩
  have : 0 ≤ wrap64 (z : Int) + 9223372036854775808 := by unfold wrap64; omega
  rw [Int.toNat_of_nonneg this]
  unfold wrap64; omega
end Go.Proofs.YtgdbeiadlgkedaaDoor
