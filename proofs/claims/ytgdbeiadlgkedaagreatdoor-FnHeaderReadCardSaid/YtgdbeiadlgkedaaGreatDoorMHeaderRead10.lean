/- Contracts and plain laws, several texts in one. -/
import Derived.Test.YtgdbeiadlgkedaaGreatDoorMHeaderRead0
import Derived.Test.YtgdbeiadlgkedaaGreatDoorMHeaderRead1
import Derived.Test.YtgdbeiadlgkedaaGreatDoorMHeaderRead2
import Derived.Test.YtgdbeiadlgkedaaGreatDoorMHeaderRead3
import Derived.Test.YtgdbeiadlgkedaaGreatDoorMHeaderRead5
import Derived.Test.YtgdbeiadlgkedaaGreatDoorMHeaderRead6
import Derived.Test.YtgdbeiadlgkedaaGreatDoorMHeaderRead7
import Derived.Test.YtgdbeiadlgkedaaGreatDoorMHeaderRead9
import Derived.Test.YtgdbeiadlgkedaaGreatDoorProg
import Derived.Below
import Derived.Deep.Draws
import Derived.Deep.AppendLies
import Derived.Maps.AppendAt
import Derived.OwnWalk
import Derived.Laws.BytesArg
import Derived.Laws.MakeOwn
import Derived.Laws.OwnMore
import Derived.Deep.OwnRows
import Derived.Tactics
import Derived.Lib.ConvBytes
import Derived.Laws.Slices
import Derived.WalkKit
import Derived.KernelRfl
import Derived.RowKit3
import Derived.Deep.LoopGhost
import Derived.Deep.QuietTactic
import Derived.BigQuiet
import Derived.WideLaws
import Derived.Deep.DeepCutAuto
import Derived.Deep.CutBlock
import Derived.Deep.RegionHeld3
import Derived.Laws.Rows
import Derived.Lib.AppendStr
import Derived.ArgAppend
import Derived.Laws.IdiomCopy
import Derived.OrdersHeld
import Derived.Laws.BitsLemmas
import Derived.RowKit
import Derived.Handy
import Derived.LoopN
import Derived.Lib.EndianMore
import Derived.Lib.Varint
namespace Go.Proofs.YtgdbeiadlgkedaaGreatDoor.PFnHeader
open Go.RowKit Go.Proofs.YtgdbeiadlgkedaaGreatDoorW.PrintWords Go.Proofs.YtgdbeiadlgkedaaGreatDoorW.PrintLast Go.Proofs.YtgdbeiadlgkedaaGreatDoorW.PrintMore
attribute [local go_sem] max2_int min2_int max_two min_two max_three min_three max_four min_four
set_option linter.unusedVariables false
set_option linter.unusedSimpArgs false
def errW : Option Int → Value
  | none => .nilIface
  | some c => .iface 0 (.int .i64 c)
theorem errW_none : errW none = .nilIface := rfl
theorem errW_some (c : Int) : errW (some c) = .iface 0 (.int .i64 c) := rfl
theorem info32 : (Tryz.prog.info? 32).map (fun i => (i.zero, i.size, i.bytes)) = some (some (.agg #[(.bool false), (.int .i64 0), (.int .i64 0)]), 3, 24) := by kernel_rfl
structure S23 where
  f0 : Bool
  f1 : Int
  f2 : Int
def z23 : S23 := ⟨false, (0 : Int), (0 : Int)⟩
def k23 : Kd S23 := Kd.iso (Kd.pair Kd.bool (Kd.pair (Kd.int .i64) (Kd.int .i64))) (fun x : S23 => (x.f0, x.f1, x.f2))
theorem k23_open {w : World} {x : S23} {cs : List Value} (h : k23.K w x cs) : cs = [.bool x.f0, .int .i64 x.f1, .int .i64 x.f2] := by
  obtain ⟨_, _, rfl, rfl, ⟨_, _, rfl, rfl, rfl⟩⟩ := h
  exact rfl
theorem k23_mkM (w : World) (base : Nat) (ok : Nat → Prop) (x : S23)  : k23.M w base ok x [.bool x.f0, .int .i64 x.f1, .int .i64 x.f2] := ⟨[.bool x.f0], [.int .i64 x.f1, .int .i64 x.f2], rfl, rfl, ⟨[.int .i64 x.f1], [.int .i64 x.f2], rfl, rfl, rfl⟩⟩
def rd_T23 (xs : List S23) (i : Int) : S23 := xs.getD i.toNat z23
theorem at_T23 {w : World} {A : Option Addr} {n : Nat} {xs : List S23} (h : Kd.C k23 w A n xs) (i : Int) (h0 : 0 ≤ i) (h1 : i < n) : ∃ ad , A = some ad ∧ w.cell? (ad.add (i.toNat * 3)) = some (.bool (rd_T23 xs i).f0) ∧ w.cell? ⟨(ad.add (i.toNat * 3)).block, (ad.add (i.toNat * 3)).off + 1, none⟩ = some (.int .i64 (rd_T23 xs i).f1) ∧ w.cell? ⟨(ad.add (i.toNat * 3)).block, (ad.add (i.toNat * 3)).off + 2, none⟩ = some (.int .i64 (rd_T23 xs i).f2) := by
  obtain ⟨ad, c, e, _, hK, hc0⟩ := Kd.C_get h z23 i h0 h1
  have hc : ∀ j u, c[j]? = some u → w.cell? (ad.add (i.toNat * 3 + j)) = some u := hc0
  obtain rfl := k23_open hK
  exact ⟨ad, e, hc 0 _ rfl, by rw [← add_field _ _ 1 (by omega)]; exact hc 1 _ rfl, by rw [← add_field _ _ 2 (by omega)]; exact hc 2 _ rfl⟩
structure S32 where
  f0 : Bool
  f1 : Int
  f2 : Int
def z32 : S32 := ⟨false, (0 : Int), (0 : Int)⟩
def k32 : Kd S32 := Kd.iso (Kd.pair Kd.bool (Kd.pair (Kd.int .i64) (Kd.int .i64))) (fun x : S32 => (x.f0, x.f1, x.f2))
theorem k32_open {w : World} {x : S32} {cs : List Value} (h : k32.K w x cs) : cs = [.bool x.f0, .int .i64 x.f1, .int .i64 x.f2] := by
  obtain ⟨_, _, rfl, rfl, ⟨_, _, rfl, rfl, rfl⟩⟩ := h
  exact rfl
theorem k32_mk (w : World) (x : S32)  : k32.K w x [.bool x.f0, .int .i64 x.f1, .int .i64 x.f2] := ⟨[.bool x.f0], [.int .i64 x.f1, .int .i64 x.f2], rfl, rfl, ⟨[.int .i64 x.f1], [.int .i64 x.f2], rfl, rfl, rfl⟩⟩
theorem k32_mkM (w : World) (base : Nat) (ok : Nat → Prop) (x : S32)  : k32.M w base ok x [.bool x.f0, .int .i64 x.f1, .int .i64 x.f2] := ⟨[.bool x.f0], [.int .i64 x.f1, .int .i64 x.f2], rfl, rfl, ⟨[.int .i64 x.f1], [.int .i64 x.f2], rfl, rfl, rfl⟩⟩
def rd_T32 (xs : List S32) (i : Int) : S32 := xs.getD i.toNat z32
theorem at_T32 {w : World} {A : Option Addr} {n : Nat} {xs : List S32} (h : Kd.C k32 w A n xs) (i : Int) (h0 : 0 ≤ i) (h1 : i < n) : ∃ ad , A = some ad ∧ w.cell? (ad.add (i.toNat * 3)) = some (.bool (rd_T32 xs i).f0) ∧ w.cell? ⟨(ad.add (i.toNat * 3)).block, (ad.add (i.toNat * 3)).off + 1, none⟩ = some (.int .i64 (rd_T32 xs i).f1) ∧ w.cell? ⟨(ad.add (i.toNat * 3)).block, (ad.add (i.toNat * 3)).off + 2, none⟩ = some (.int .i64 (rd_T32 xs i).f2) := by
  obtain ⟨ad, c, e, _, hK, hc0⟩ := Kd.C_get h z32 i h0 h1
  have hc : ∀ j u, c[j]? = some u → w.cell? (ad.add (i.toNat * 3 + j)) = some u := hc0
  obtain rfl := k32_open hK
  exact ⟨ad, e, hc 0 _ rfl, by rw [← add_field _ _ 1 (by omega)]; exact hc 1 _ rfl, by rw [← add_field _ _ 2 (by omega)]; exact hc 2 _ rfl⟩
end Go.Proofs.YtgdbeiadlgkedaaGreatDoor.PFnHeader
namespace Go.Proofs.YtgdbeiadlgkedaaGreatDoor.PFnHeaderBack
open Go.RowKit Go.Proofs.YtgdbeiadlgkedaaGreatDoorW.PrintWords Go.Proofs.YtgdbeiadlgkedaaGreatDoorW.PrintLast Go.Proofs.YtgdbeiadlgkedaaGreatDoorW.PrintMore
attribute [local go_sem] max2_int min2_int max_two min_two max_three min_three max_four min_four
set_option linter.unusedVariables false
set_option linter.unusedSimpArgs false
def errW : Option Int → Value
  | none => .nilIface
  | some c => .iface 0 (.int .i64 c)
theorem errW_none : errW none = .nilIface := rfl
theorem errW_some (c : Int) : errW (some c) = .iface 0 (.int .i64 c) := rfl
theorem info32 : (Tryz.prog.info? 32).map (fun i => (i.zero, i.size, i.bytes)) = some (some (.agg #[(.bool false), (.int .i64 0), (.int .i64 0)]), 3, 24) := by kernel_rfl
structure S23 where
  f0 : Bool
  f1 : Int
  f2 : Int
def z23 : S23 := ⟨false, (0 : Int), (0 : Int)⟩
def k23 : Kd S23 := Kd.iso (Kd.pair Kd.bool (Kd.pair (Kd.int .i64) (Kd.int .i64))) (fun x : S23 => (x.f0, x.f1, x.f2))
theorem k23_open {w : World} {x : S23} {cs : List Value} (h : k23.K w x cs) : cs = [.bool x.f0, .int .i64 x.f1, .int .i64 x.f2] := by
  obtain ⟨_, _, rfl, rfl, ⟨_, _, rfl, rfl, rfl⟩⟩ := h
  exact rfl
theorem k23_mkM (w : World) (base : Nat) (ok : Nat → Prop) (x : S23)  : k23.M w base ok x [.bool x.f0, .int .i64 x.f1, .int .i64 x.f2] := ⟨[.bool x.f0], [.int .i64 x.f1, .int .i64 x.f2], rfl, rfl, ⟨[.int .i64 x.f1], [.int .i64 x.f2], rfl, rfl, rfl⟩⟩
def rd_T23 (xs : List S23) (i : Int) : S23 := xs.getD i.toNat z23
theorem at_T23 {w : World} {A : Option Addr} {n : Nat} {xs : List S23} (h : Kd.C k23 w A n xs) (i : Int) (h0 : 0 ≤ i) (h1 : i < n) : ∃ ad , A = some ad ∧ w.cell? (ad.add (i.toNat * 3)) = some (.bool (rd_T23 xs i).f0) ∧ w.cell? ⟨(ad.add (i.toNat * 3)).block, (ad.add (i.toNat * 3)).off + 1, none⟩ = some (.int .i64 (rd_T23 xs i).f1) ∧ w.cell? ⟨(ad.add (i.toNat * 3)).block, (ad.add (i.toNat * 3)).off + 2, none⟩ = some (.int .i64 (rd_T23 xs i).f2) := by
  obtain ⟨ad, c, e, _, hK, hc0⟩ := Kd.C_get h z23 i h0 h1
  have hc : ∀ j u, c[j]? = some u → w.cell? (ad.add (i.toNat * 3 + j)) = some u := hc0
  obtain rfl := k23_open hK
  exact ⟨ad, e, hc 0 _ rfl, by rw [← add_field _ _ 1 (by omega)]; exact hc 1 _ rfl, by rw [← add_field _ _ 2 (by omega)]; exact hc 2 _ rfl⟩
structure S32 where
  f0 : Bool
  f1 : Int
  f2 : Int
def z32 : S32 := ⟨false, (0 : Int), (0 : Int)⟩
def k32 : Kd S32 := Kd.iso (Kd.pair Kd.bool (Kd.pair (Kd.int .i64) (Kd.int .i64))) (fun x : S32 => (x.f0, x.f1, x.f2))
theorem k32_open {w : World} {x : S32} {cs : List Value} (h : k32.K w x cs) : cs = [.bool x.f0, .int .i64 x.f1, .int .i64 x.f2] := by
  obtain ⟨_, _, rfl, rfl, ⟨_, _, rfl, rfl, rfl⟩⟩ := h
  exact rfl
theorem k32_mk (w : World) (x : S32)  : k32.K w x [.bool x.f0, .int .i64 x.f1, .int .i64 x.f2] := ⟨[.bool x.f0], [.int .i64 x.f1, .int .i64 x.f2], rfl, rfl, ⟨[.int .i64 x.f1], [.int .i64 x.f2], rfl, rfl, rfl⟩⟩
theorem k32_mkM (w : World) (base : Nat) (ok : Nat → Prop) (x : S32)  : k32.M w base ok x [.bool x.f0, .int .i64 x.f1, .int .i64 x.f2] := ⟨[.bool x.f0], [.int .i64 x.f1, .int .i64 x.f2], rfl, rfl, ⟨[.int .i64 x.f1], [.int .i64 x.f2], rfl, rfl, rfl⟩⟩
def rd_T32 (xs : List S32) (i : Int) : S32 := xs.getD i.toNat z32
theorem at_T32 {w : World} {A : Option Addr} {n : Nat} {xs : List S32} (h : Kd.C k32 w A n xs) (i : Int) (h0 : 0 ≤ i) (h1 : i < n) : ∃ ad , A = some ad ∧ w.cell? (ad.add (i.toNat * 3)) = some (.bool (rd_T32 xs i).f0) ∧ w.cell? ⟨(ad.add (i.toNat * 3)).block, (ad.add (i.toNat * 3)).off + 1, none⟩ = some (.int .i64 (rd_T32 xs i).f1) ∧ w.cell? ⟨(ad.add (i.toNat * 3)).block, (ad.add (i.toNat * 3)).off + 2, none⟩ = some (.int .i64 (rd_T32 xs i).f2) := by
  obtain ⟨ad, c, e, _, hK, hc0⟩ := Kd.C_get h z32 i h0 h1
  have hc : ∀ j u, c[j]? = some u → w.cell? (ad.add (i.toNat * 3 + j)) = some u := hc0
  obtain rfl := k32_open hK
  exact ⟨ad, e, hc 0 _ rfl, by rw [← add_field _ _ 1 (by omega)]; exact hc 1 _ rfl, by rw [← add_field _ _ 2 (by omega)]; exact hc 2 _ rfl⟩
end Go.Proofs.YtgdbeiadlgkedaaGreatDoor.PFnHeaderBack
set_option linter.unusedVariables false
set_option linter.unusedSimpArgs false
namespace Go.Proofs.YtgdbeiadlgkedaaGreatDoor.PFnHeaderBack
open Go.RowKit Go.Proofs.YtgdbeiadlgkedaaGreatDoorW.PrintWords Go.Proofs.YtgdbeiadlgkedaaGreatDoorW.PrintLast Go.Proofs.YtgdbeiadlgkedaaGreatDoorW.PrintMore
def spec_CodSpanTime.f (a0 : Int) : Option (Bool) := if a0 ≥ (-9223372036854775) then (some (decide (a0 ≤ 9223372036854775))) else (some false)
set_option maxHeartbeats 8000000 in
set_option maxRecDepth 100000 in
theorem spec_CodSpanTime.calls (a0 : Int) (r : Bool) (w : World) (h : spec_CodSpanTime.f a0 = some r) :
    Calls Tryz.prog 30 #[.int .i64 a0] w fun e w' => e = .returned (.bool r) ∧ Drawn0 w w' := by
  have H : (if a0 ≥ (-9223372036854775) then (some (decide (a0 ≤ 9223372036854775))) else (some false)) = some r := h
  clear h
  by_cases c2 : a0 ≥ (-9223372036854775)
  · rw [if_pos c2] at H
    have c2b0 : decide ((-9223372036854775) ≤ a0) = true := decide_eq_true c2
    clear c2
    obtain rfl := Option.some.inj H
    go_enter Tryz.func30, Tryz.ntmps30
    go_wp2
    go_ret
    exact ⟨by first | rfl | (simp; done) | (simp [*]; done), by repeat (first | exact Drawn0.refl _ | apply Drawn0.step)⟩
  · rw [if_neg c2] at H
    have c2b0 : decide ((-9223372036854775) ≤ a0) = false := decide_eq_false c2
    clear c2
    obtain rfl := Option.some.inj H
    go_enter Tryz.func30, Tryz.ntmps30
    go_wp2
    go_ret
    exact ⟨by first | rfl | (simp; done) | (simp [*]; done), by repeat (first | exact Drawn0.refl _ | apply Drawn0.step)⟩
end Go.Proofs.YtgdbeiadlgkedaaGreatDoor.PFnHeaderBack
set_option linter.unusedVariables false
set_option linter.unusedSimpArgs false
namespace Go.Proofs.YtgdbeiadlgkedaaGreatDoor
open Go.RowKit PFnWindowOne Go.Proofs.YtgdbeiadlgkedaaGreatDoorW.PrintWords Go.Proofs.YtgdbeiadlgkedaaGreatDoorW.PrintLast Go.Proofs.YtgdbeiadlgkedaaGreatDoorW.PrintMore
def D1 (w0 : World) (cs : Array Value) (T : TypeId) (w' : World) : Prop := w'.heap[w0.heap.size]? = some (.cells cs T (0, 0)) ∧ Below w0.heap.size w0 w'
theorem D1.step {w0 x y : World} {cs : Array Value} {T : TypeId} (h : D1 w0 cs T x) (hb : Below x.heap.size x y) : D1 w0 cs T y := ⟨blk_below h.1 hb, below_then h.2 h.2.size hb⟩
theorem word_nilZ (w : World) : Calls Tryz.prog 41 #[.nilIface] w fun e w' => e = .returned (.string ⟨#[]⟩) ∧ w' = w := by
  go_enter Tryz.func41, Tryz.ntmps41
  go_wp2
  go_ret
  exact ⟨rfl, rfl⟩
end Go.Proofs.YtgdbeiadlgkedaaGreatDoor
set_option linter.unusedVariables false
set_option linter.unusedSimpArgs false
namespace Go.Proofs.YtgdbeiadlgkedaaGreatDoor
open Go.RowKit
theorem ret_int {k : IntKind} {a b : Int} (h : a = b) : Ending.returned (.int k a) = .returned (.int k b) := by rw [h]
def mx (a b : Int) : Int := if a < b then b else a
def mn (a b : Int) : Int := if a < b then a else b
def nrm (t : Int) : Int := if t < -9223372036854775 then -9223372036854775 else if 9223372036854775 < t then 9223372036854775 else t
theorem nrm_mx (t : Int) : mn (mx t (-9223372036854775)) 9223372036854775 = nrm t := by
  unfold nrm mn mx
  split <;> split <;> (try split) <;> (try split) <;> omega
theorem max_any (a b : Int) (w : World) : Calls Tryz.prog 164 #[.int .i64 a, .int .i64 b] w fun e w' => e = .returned (.int .i64 (mx a b)) ∧ w = w' := by
  by_cases h : a < b
  · go_enter Tryz.func164, Tryz.ntmps164
    go_wp2
    go_ret
    exact ⟨ret_int (by unfold mx; rw [if_pos h]), rfl⟩
  · go_enter Tryz.func164, Tryz.ntmps164
    go_wp2
    go_ret
    exact ⟨ret_int (by unfold mx; rw [if_neg (by omega)]), rfl⟩
theorem min_any (a b : Int) (w : World) : Calls Tryz.prog 163 #[.int .i64 a, .int .i64 b] w fun e w' => e = .returned (.int .i64 (mn a b)) ∧ w = w' := by
  by_cases h : a < b
  · go_enter Tryz.func163, Tryz.ntmps163
    go_wp2
    go_ret
    exact ⟨ret_int (by unfold mn; rw [if_pos h]), rfl⟩
  · go_enter Tryz.func163, Tryz.ntmps163
    go_wp2
    go_ret
    exact ⟨ret_int (by unfold mn; rw [if_neg (by omega)]), rfl⟩
theorem norm_any (t : Int) (w : World) : Calls Tryz.prog 162 #[.int .i64 t] w fun e w' => e = .returned (.int .i64 (nrm t)) ∧ w = w' := by
  go_enter Tryz.func162, Tryz.ntmps162
  go_wp2_with (first | (go_at_call 164; refine (max_any _ _ _).mono ?_; rintro e w' ⟨rfl, rfl⟩) | (go_at_call 163; refine (min_any _ _ _).mono ?_; rintro e w' ⟨rfl, rfl⟩))
  go_ret
  exact ⟨ret_int (nrm_mx t), rfl⟩
theorem fromMs_any (t : Int) (w : World) : Calls Tryz.prog 161 #[.int .i64 t] w fun e w' => e = .returned (.int .i64 (nrm t)) ∧ w = w' := by
  go_enter Tryz.func161, Tryz.ntmps161
  go_wp2_with (go_at_call 162; refine (norm_any _ _).mono ?_; rintro e w' ⟨rfl, rfl⟩)
  go_ret
  exact ⟨rfl, rfl⟩
theorem decVar_okZ (B : Nat) (pe pl : Addr) (r g : Nat) (l : List UInt8) (i : Nat) (w : World) (h : Rd r g l i w) (he : Env B pe pl w) (hBr : B ≤ r) (v k : Nat) (hR : vrd 0 0 (l.drop i) = some (v, k)) :
    Calls Tryz.prog 92 #[rdI r] w fun e w' => e = .returned (.tuple #[.int .u64 (v : Nat), .nilIface]) ∧ w.grownBy w' (some r) ∧ Rd r g l (i + k) w' :=
  (decVar_any B pe pl r g l i w h he hBr _ hR).mono fun e w' ⟨hg, hh⟩ => by
    rcases hh with ⟨v', k', e1, e2, e3⟩ | ⟨e1, _⟩
    · cases e1; exact ⟨e2, hg, e3⟩
    · cases e1
theorem decVar_badZ (B : Nat) (pe pl : Addr) (r g : Nat) (l : List UInt8) (i : Nat) (w : World) (h : Rd r g l i w) (he : Env B pe pl w) (hBr : B ≤ r) (hR : vrd 0 0 (l.drop i) = none) :
    Calls Tryz.prog 92 #[rdI r] w fun e w' => ∃ ev, e = .returned (.tuple #[.int .u64 0, ev]) ∧ Fell r g l w w' ev :=
  (decVar_any B pe pl r g l i w h he hBr _ hR).mono fun e w' ⟨hg, hh⟩ => by
    rcases hh with ⟨v', k', e1, _⟩ | ⟨_, ev, i', e2, e3, e4⟩
    · cases e1
    · exact ⟨ev, e2, hg, e3, i', e4⟩
set_option maxHeartbeats 4000000 in
set_option maxRecDepth 100000 in
theorem decSingle_ok (B : Nat) (pe pl : Addr) (a : Option Addr) (r g : Nat) (l : List UInt8) (i : Nat) (w : World) (h : Rd r g l i w) (he : Env B pe pl w) (hBr : B ≤ r) (hB : B ≤ w.heap.size) (hi : i + 8 ≤ l.length) (T : Int) (hT : wrap64 (wrap64 (Lib.beNat ((l.drop i).take 8) : Nat) + -9223372036854775808) = T) (v k : Nat) (hv : vrd 0 0 (l.drop (i + 8)) = some (v, k)) :
    Calls Tryz.prog 160 #[.pointer a, rdI r] w fun x w' => x = .returned (.tuple #[winI (nrm (wrap64 (T - wrap64 (v : Nat)))) T, .nilIface]) ∧ w.grownBy w' (some r) ∧ Rd r g l (i + 8 + k) w' := by
  have hC := decTime_ok r g l i w h hi
  rw [hT] at hC
  have HC := Lib.hid hC
  have HV := Lib.hid hv
  have HE := Lib.hid (And.intro he (And.intro hBr hB))
  obtain ⟨D, hD⟩ : ∃ D, Hid (wrap64 (v : Int) = D) := ⟨_, Lib.hid rfl⟩
  obtain ⟨S, hS⟩ : ∃ S, Hid (wrap64 (T - D) = S) := ⟨_, Lib.hid rfl⟩
  have q1 : wrap64 (v : Int) = D := hD.out
  have q2 : IntKind.i64.wrap (v : Int) = D := (IntWalk.i64_left _).trans hD.out
  have q3 : wrap64 (T - D) = S := hS.out
  have q4 : IntKind.i64.wrap (T - D) = S := (IntWalk.i64_left _).trans hS.out
  rw [q1, q3]
  clear h he hBr hB hi hT hC hv
  go_enter Tryz.func160, Tryz.ntmps160
  go_wp2_with (first
    | (go_at_call 83; go_loud (refine HC.out.mono ?_; rintro e_ w1 ⟨rfl, hg, hr⟩; have H1 := Lib.hid (And.intro hg hr); clear hg hr))
    | (go_at_call 92; go_loud (refine (decVar_okZ B pe pl r g l (i + 8) w1 H1.out.2 (HE.out.1.below (grown_below H1.out.1 HE.out.2.2 HE.out.2.1)) HE.out.2.1 v k HV.out).mono ?_; rintro e_ w2 ⟨rfl, hg, hr⟩; have H2 := Lib.hid (And.intro (grown_trans H1.out.1 hg) hr); clear hg hr))
    | (go_at_call 103; refine (millis_any _ _).mono ?_; rintro e_ w3 ⟨rfl, rfl⟩)
    | (go_at_call 161; refine (fromMs_any _ _).mono ?_; rintro e_ w3 ⟨rfl, rfl⟩))
  go_ret2
  exact ⟨rfl, H2.out.1, H2.out.2⟩
end Go.Proofs.YtgdbeiadlgkedaaGreatDoor
set_option linter.unusedVariables false
set_option linter.unusedSimpArgs false
namespace Go.Proofs.YtgdbeiadlgkedaaGreatDoor
open Go.RowKit
set_option maxHeartbeats 4000000 in
set_option maxRecDepth 100000 in
theorem backWin_1 (s e : Int) (w : World) : Calls Tryz.prog 45 #[winI s e] w fun x w' => x = .returned (.agg #[.bool false, .int .i64 s, .int .i64 e]) ∧ Below w.heap.size w w' := by
  have ta := taT s e
  go_enter Tryz.func45, Tryz.ntmps45
  go_wp2
  have hz := blk_alloc' (o' := .cells #[.int .i64 s, .int .i64 e] 194 (0, 0)) (heap_alloc_new w (.cells #[.bool false, .int .i64 s, .int .i64 e] 23))
  have HB := Lib.hid (show Below w.heap.size w ((w.alloc (.cells #[.bool false, .int .i64 s, .int .i64 e] 23)).alloc (.cells #[.int .i64 s, .int .i64 e] 194)) from ((Below.refl _ w).alloc (Nat.le_refl _) _).alloc (by rw [World.size_alloc]; omega) _)
  generalize (w.alloc (.cells #[.bool false, .int .i64 s, .int .i64 e] 23)).alloc (.cells #[.int .i64 s, .int .i64 e] 194) = X at hz HB ⊢
  have c0 : X.cell? ⟨w.heap.size, 0, none⟩ = some (.bool false) := (blk_cell hz 0).trans rfl
  have c1 : X.cell? ⟨w.heap.size, 1, none⟩ = some (.int .i64 s) := (blk_cell hz 1).trans rfl
  have c2 : X.cell? ⟨w.heap.size, 2, none⟩ = some (.int .i64 e) := (blk_cell hz 2).trans rfl
  exact bodyPost_ret (v := .agg #[.bool false, .int .i64 s, .int .i64 e]) (by simp [results, Tryz.results45, go_sem, c0, c1, c2]; try rfl) rfl ⟨rfl, HB.out⟩
set_option maxHeartbeats 4000000 in
set_option maxRecDepth 100000 in
theorem backWin_0 (w : World) : Calls Tryz.prog 45 #[.iface 192 (.agg #[])] w fun x w' => x = .returned (.agg #[.bool true, .int .i64 0, .int .i64 0]) ∧ Below w.heap.size w w' := by
  have ta := taG
  go_enter Tryz.func45, Tryz.ntmps45
  go_wp2
  have hz := blk_alloc' (o' := .cells #[.int .i64 0, .int .i64 0] 194 (0, 0)) (heap_alloc_new w (.cells #[.bool true, .int .i64 0, .int .i64 0] 23))
  have HB := Lib.hid (show Below w.heap.size w ((w.alloc (.cells #[.bool true, .int .i64 0, .int .i64 0] 23)).alloc (.cells #[.int .i64 0, .int .i64 0] 194)) from ((Below.refl _ w).alloc (Nat.le_refl _) _).alloc (by rw [World.size_alloc]; omega) _)
  generalize (w.alloc (.cells #[.bool true, .int .i64 0, .int .i64 0] 23)).alloc (.cells #[.int .i64 0, .int .i64 0] 194) = X at hz HB ⊢
  have c0 : X.cell? ⟨w.heap.size, 0, none⟩ = some (.bool true) := (blk_cell hz 0).trans rfl
  have c1 : X.cell? ⟨w.heap.size, 1, none⟩ = some (.int .i64 0) := (blk_cell hz 1).trans rfl
  have c2 : X.cell? ⟨w.heap.size, 2, none⟩ = some (.int .i64 0) := (blk_cell hz 2).trans rfl
  exact bodyPost_ret (v := .agg #[.bool true, .int .i64 0, .int .i64 0]) (by simp [results, Tryz.results45, go_sem, c0, c1, c2]; try rfl) rfl ⟨rfl, HB.out⟩
end Go.Proofs.YtgdbeiadlgkedaaGreatDoor
set_option linter.unusedVariables false
set_option linter.unusedSimpArgs false
namespace Go.Proofs.YtgdbeiadlgkedaaGreatDoor
open Go.RowKit
theorem D1.grown {w x y : World} {cs : Array Value} {T : TypeId} {r : Nat} (h : D1 w cs T x) (hg : x.grownBy y (some r)) (hr : w.heap.size < r) : D1 w cs T y :=
  ⟨(hg.block _ (blk_lt h.1) (by intro e; cases e; omega)).trans h.1, h.2.trans (grown_below hg h.2.size (by omega))⟩
theorem D1.drewN {w x : World} {cs : Array Value} {T : TypeId} (h : D1 w cs T x) (n : Nat) : D1 w cs T (x.drewN n) := ⟨h.1, below_drewN h.2 n⟩
end Go.Proofs.YtgdbeiadlgkedaaGreatDoor
set_option linter.unusedVariables false
set_option linter.unusedSimpArgs false
namespace Go.Proofs.YtgdbeiadlgkedaaGreatDoor
open Go.RowKit PFnWindowOne Go.Proofs.YtgdbeiadlgkedaaGreatDoorW.PrintWords Go.Proofs.YtgdbeiadlgkedaaGreatDoorW.PrintLast Go.Proofs.YtgdbeiadlgkedaaGreatDoorW.PrintMore
def toS (x : S23) : S32 := ⟨x.f0, x.f1, x.f2⟩
theorem wrap_up (i : Nat) (h : i < 1000000) : wrap64 ((i : Int) + 1) = ((i + 1 : Nat) : Int) := by unfold wrap64; omega
theorem rd23_at (l : List S23) (i : Nat) (h : i < l.length) : rd_T23 l (i : Int) = l[i] := by unfold rd_T23; simp [List.getD_eq_getElem?_getD, h]
theorem rd32_at (l : List S32) (i : Nat) (h : i < l.length) : rd_T32 l (i : Int) = l[i] := by unfold rd_T32; simp [List.getD_eq_getElem?_getD, h]
theorem spanOf_l (l : List S23) (hl : l.length ≤ 100000) : ∀ (m i : Nat) (x3 : List S32), i + m = l.length → x3.length = i → laws_codSpanOf.l0 (m + 1) x3 l (l.length : Int) (i : Int) = some (x3 ++ (l.drop i).map toS)
  | 0, i, x3, h, _ => by
    rw [laws_codSpanOf.l0, if_neg (by omega), List.drop_eq_nil_of_le (by omega)]; simp
  | m + 1, i, x3, h, hx => by
    have hlt : i < l.length := by omega
    rw [laws_codSpanOf.l0, if_pos (by omega), if_pos (by omega), if_pos (by omega), if_pos (by omega), wrap_up i (by omega), spanOf_l l hl m (i + 1) _ (by omega) (by simp [hx]), List.drop_eq_getElem_cons hlt, rd23_at l i hlt, List.map_cons, List.append_assoc]
    rfl
theorem spanOf_f (l : List S23) (hl : l.length ≤ 100000) : laws_codSpanOf.f (l.length + 1) l = some (l.map toS) := by
  unfold laws_codSpanOf.f
  have := spanOf_l l hl l.length 0 [] (by omega) rfl
  simpa using this
end Go.Proofs.YtgdbeiadlgkedaaGreatDoor
set_option linter.unusedVariables false
set_option linter.unusedSimpArgs false
namespace Go.Proofs.YtgdbeiadlgkedaaGreatDoor
open Go.RowKit PFnWindowOne Go.Proofs.YtgdbeiadlgkedaaGreatDoorW.PrintWords
def ifv (x : S23) : Value := if x.f0 then .iface 192 (.agg #[]) else .iface 194 (.agg #[.int .i64 x.f1, .int .i64 x.f2])
theorem ifv_one (x : S23) : (ifv x).oneCell' = true := by unfold ifv; split <;> rfl
theorem ifv_iface (x : S23) : ∃ t v, ifv x = .iface t v := by unfold ifv; split <;> exact ⟨_, _, rfl⟩
def kIf : Kd S23 := Kd.scalar ifv ifv_one
def rdN (xs : List S23) (i : Nat) : S23 := xs.getD i z23
theorem rdN_at (l : List S23) (i : Nat) (h : i < l.length) : rdN l i = l[i] := by unfold rdN; simp [List.getD_eq_getElem?_getD, h]
theorem atIf {w : World} {A : Option Addr} {n : Nat} {xs : List S23} (h : Kd.C kIf w A n xs) (i : Nat) (h1 : i < n) : ∃ ad, A = some ad ∧ w.cell? (ad.add i) = some (ifv (rdN xs i)) := by
  obtain ⟨ad, c, e, _, hK, hc0⟩ := Kd.C_get h z23 (i : Int) (by omega) (by omega)
  have hc : ∀ j u, c[j]? = some u → w.cell? (ad.add (i * 1 + j)) = some u := hc0
  obtain rfl : c = [ifv (rdN xs i)] := hK
  exact ⟨ad, e, by have := hc 0 _ rfl; simpa using this⟩
theorem take_succ (l : List S23) (k : Nat) (h : k < l.length) : l.take (k + 1) = l.take k ++ [rdN l k] := by
  rw [List.take_succ_eq_append_getElem h, rdN_at l k h]
theorem info23 : (Tryz.prog.info? 23).map (fun i => (i.zero, i.size, i.bytes)) = some (some (.agg #[(.bool false), (.int .i64 0), (.int .i64 0)]), 3, 24) := by kernel_rfl
def nz (x : S23) : S23 := if x.f0 then ⟨true, 0, 0⟩ else x
theorem backWin_any (x : S23) (w : World) : Calls Tryz.prog 45 #[ifv x] w fun e w' => e = .returned (.agg #[.bool (nz x).f0, .int .i64 (nz x).f1, .int .i64 (nz x).f2]) ∧ Below w.heap.size w w' := by
  obtain ⟨g, s, e⟩ := x
  cases g
  · exact backWin_1 s e w
  · exact backWin_0 w
theorem take_map_nz (l : List S23) (k : Nat) (h : k < l.length) : (l.take (k + 1)).map nz = (l.take k).map nz ++ [nz (rdN l k)] := by rw [take_succ l k h]; simp
set_option maxHeartbeats 1000000 in
set_option maxRecDepth 100000 in
theorem backWins_any (A0 : Option Addr) (c0 : Nat) (l : List S23) (w : World) (hr0 : Kd.C kIf w A0 l.length l) (hc0 : l.length ≤ c0) (hl : l.length * 24 ≤ 140737488351232) :
    Calls Tryz.prog 50 #[.slice A0 l.length c0] w fun e w' => ∃ v : Value, e = .returned v ∧ Kd.R k23 23 w' w.heap.size (fun _ => True) v (l.map nz) ∧ Below w.heap.size w w' := by
  have HR0 := Aside0.mk hr0
  have HC0 := Aside0.mk hc0
  clear hr0 hc0
  have HB := Aside0.mk (Below.refl w.heap.size w)
  go_enter Tryz.func50, Tryz.ntmps50
  go_wp2
  go_loopg [3, 8] l.length (fun kq v3 v8 w' => ∃ k : Nat, k ≤ l.length ∧ Aside0 (kq = l.length - k) ∧ v8 = .int .i64 k ∧ Aside0 (Kd.R k23 23 w' w.heap.size (fun _ => True) v3 ((l.take k).map nz)) ∧ Aside0 (Below w.heap.size w w'))
  case atStart => exact ⟨0, Nat.zero_le _, ⟨by simp⟩, rfl, ⟨Kd.R_nil _ _ _ _ _⟩, HB⟩
  case round =>
    clear HB
    obtain ⟨k, hk, hq, rfl, HO, HB⟩ := hrel
    by_cases hlt : k < l.length
    · obtain ⟨ad, e104, hx0⟩ := atIf HR0.out k hlt
      cases e104
      replace hx0 := (HB.out.cell (World.block_lt_of_cell? w _ hx0)).trans hx0
      have hts := Aside0.mk (take_map_nz l k hlt)
      have htl := Aside0.mk (show ((l.take k).map nz).length = k by rw [List.length_map, List.length_take_of_le hk])
      go_wp2_with (first | (go_at_call 45; (with_reducible refine (backWin_any (rdN l k) _).mono ?_); rintro e w7 ⟨rfl, hb7⟩; have n1_ := Aside0.mk (below_then (by repeat (first | (with_reducible first | exact HB.out | apply below_alloc | apply pw_below_drewN | apply below_drew1) | exact HB.out)) (below_size (by repeat (first | (with_reducible first | exact HB.out | apply below_alloc | apply pw_below_drewN | apply below_drew1) | exact HB.out))) hb7); have n2_ := Aside0.mk (Kd.R_below (by (with_reducible repeat (first | apply Kd.R_alloc | apply Kd.R_drewN | apply Kd.R_drew)); exact HO.out) hb7); clear HB HO hb7; have HB := n1_; have HO := n2_; clear n1_ n2_) | ((with_reducible refine gate_builtin (b := .append) (xs := #[.tmp 12, .tmp 15]) rfl ?_); at_builtin; refine Kd.R_append k23 (w0 := w) w.heap.size rfl (.tmp 12) (.tmp 15) 25 23 (.agg #[(.bool false), (.int .i64 0), (.int .i64 0)]) 24 rfl Tryz.underlying25 info23 rfl (by decide) (by omega) u3 ((l.take k).map nz) (nz (rdN l k)) [.bool (nz (rdN l k)).f0, .int .i64 (nz (rdN l k)).f1, .int .i64 (nz (rdN l k)).f2] (fun _ => True) (fun _ => False) rfl (by first | (go_simp; done) | (go_simp; rfl)) ?aP (fun _ hk => hk.elim) ?aF ?aO ?aB ?aS ?aL ?_; (case aP => exact k23_mkM _ _ _ _); (case aB => exact (by repeat (first | (with_reducible first | exact HB.out | apply below_alloc | apply pw_below_drewN | apply below_drew1) | exact HB.out))); (case aF => exact (fun _ _ => trivial)); (case aO => exact (by (with_reducible repeat (first | apply Kd.R_alloc | apply Kd.R_drewN | apply Kd.R_drew)); exact HO.out)); (case aS => exact (below_size (by repeat (first | (with_reducible first | exact HB.out | apply below_alloc | apply pw_below_drewN | apply below_drew1) | exact HB.out)))); (case aL => have := htl.out; omega); intro v107 w8 ho hb hg hat; rw [← hts.out] at ho; have n1_ := Aside0.mk (hb); have n2_ := Aside0.mk (ho); clear HB; clear HO; have HB := n1_; have HO := n2_; clear n1_ n2_; clear ho hb hg hat))
      go_roundg (l.length - (k + 1))
      case measure => have := hq.out; omega
      case rel => exact ⟨k + 1, by omega, ⟨rfl⟩, by go_num, HO, HB⟩
    · have hkl : Aside0 (k = l.length) := ⟨by omega⟩
      go_wp2
      go_ret
      have HO' := HO.out
      rw [hkl.out, List.take_length] at HO'
      exact ⟨_, rfl, HO', HB.out⟩
section
variable {P : Program} {ops : Array Oper} {rest : List Oper} {o : Oper} {a : Act} {Q : Exit → Act → World → Prop}
end
end Go.Proofs.YtgdbeiadlgkedaaGreatDoor
set_option linter.unusedVariables false
set_option linter.unusedSimpArgs false
namespace Go.Proofs.YtgdbeiadlgkedaaGreatDoor
open Go.RowKit PFnWindowOne Go.Proofs.YtgdbeiadlgkedaaGreatDoorW.PrintWords
theorem C_move {w w1 : World} {A : Option Addr} {n : Nat} {l : List S23} (h : Kd.C k23 w A n l) (hb : Below w.heap.size w w1) : Kd.C k23 w1 A n l := Kd.C_below h hb
end Go.Proofs.YtgdbeiadlgkedaaGreatDoor
set_option linter.unusedVariables false
set_option linter.unusedSimpArgs false
namespace Go.Proofs.YtgdbeiadlgkedaaGreatDoor
open Go.RowKit PFnWindowOne Go.Proofs.YtgdbeiadlgkedaaGreatDoorW.PrintWords
theorem spanTime_any (t : Int) (w : World) : Calls Tryz.prog 30 #[.int .i64 t] w fun e w' => e = .returned (.bool (decide (-9223372036854775 ≤ t ∧ t ≤ 9223372036854775))) ∧ Below w.heap.size w w' := by
  refine (PFnHeaderBack.spec_CodSpanTime.calls t (decide (-9223372036854775 ≤ t ∧ t ≤ 9223372036854775)) w ?_).mono (by rintro e w' ⟨he, m, rfl⟩; exact ⟨he, below_drewN (Below.refl _ _) m⟩)
  unfold PFnHeaderBack.spec_CodSpanTime.f
  by_cases h : t ≥ -9223372036854775
  · rw [if_pos h]
    congr 1
    by_cases h2 : t ≤ 9223372036854775
    · rw [decide_eq_true h2, decide_eq_true ⟨h, h2⟩]
    · rw [decide_eq_false h2, decide_eq_false (fun q => h2 q.2)]
  · rw [if_neg h, decide_eq_false (fun q => h q.1)]
def paneOk (t i n : Int) : Prop := 0 ≤ t ∧ t ≤ 3 ∧ (t = 0 → n = -1 ∨ (i = 0 ∧ n = 0))
instance (t i n : Int) : Decidable (paneOk t i n) := by unfold paneOk; infer_instance
theorem D1.cells8 {w x : World} {v0 v1 v2 v3 v4 v5 v6 v7 : Value} {T : TypeId} (h : D1 w #[v0, v1, v2, v3, v4, v5, v6, v7] T x) : x.cell? ⟨w.heap.size, 0, none⟩ = some v0 ∧ x.cell? ⟨w.heap.size, 1, none⟩ = some v1 ∧ x.cell? ⟨w.heap.size, 2, none⟩ = some v2 ∧ x.cell? ⟨w.heap.size, 3, none⟩ = some v3 ∧ x.cell? ⟨w.heap.size, 4, none⟩ = some v4 ∧ x.cell? ⟨w.heap.size, 5, none⟩ = some v5 ∧ x.cell? ⟨w.heap.size, 6, none⟩ = some v6 ∧ x.cell? ⟨w.heap.size, 7, none⟩ = some v7 :=
  ⟨(blk_cell h.1 0).trans rfl, (blk_cell h.1 1).trans rfl, (blk_cell h.1 2).trans rfl, (blk_cell h.1 3).trans rfl, (blk_cell h.1 4).trans rfl, (blk_cell h.1 5).trans rfl, (blk_cell h.1 6).trans rfl, (blk_cell h.1 7).trans rfl⟩
set_option maxHeartbeats 4000000 in
set_option maxRecDepth 100000 in
theorem codPaneZ (t : Int) (f l : Bool) (i n : Int) (w : World) :
    Calls Tryz.prog 24 #[.agg #[.int .i64 t, .bool f, .bool l, .int .i64 i, .int .i64 n]] w fun e w' => e = .returned (.agg #[.int .i64 t, .bool f, .bool l, .int .i64 i, .int .i64 n]) ∧ Below w.heap.size w w' := by
  go_enter Tryz.func24, Tryz.ntmps24
  go_wp2
  go_returns
  exact ⟨rfl, by repeat (first | exact Below.refl _ _ | apply below_alloc | apply below_drew | refine below_set ?_ (by simp) | (refine Below.setCell ?_ (by simp) _))⟩
end Go.Proofs.YtgdbeiadlgkedaaGreatDoor
set_option linter.unusedVariables false
set_option linter.unusedSimpArgs false
namespace Go.Proofs.YtgdbeiadlgkedaaGreatDoor
open Go.RowKit
inductive PnR where
  | right (t : Nat) (f l : Bool) (i n : Int) (k : Nat)
  | wrong
  | unsaid
def rdPane : List UInt8 → PnR
  | [] => .wrong
  | x :: r =>
    if x.toNat / 16 = 0 then .right (x.toNat / 4 % 4) (decide (x.toNat % 2 = 1)) (decide (x.toNat / 2 % 2 = 1)) 0 0 1
    else if x.toNat / 16 = 1 then
      match vrd 0 0 r with
      | none => .wrong
      | some (v, k) => .right (x.toNat / 4 % 4) (decide (x.toNat % 2 = 1)) (decide (x.toNat / 2 % 2 = 1)) (wrap64 (v : Nat)) (if x.toNat / 4 % 4 = 0 then -1 else wrap64 (v : Nat)) (1 + k)
    else if x.toNat / 16 = 2 then
      match vrd 0 0 r with
      | none => .wrong
      | some (v, k) =>
        match vrd 0 0 (r.drop k) with
        | none => .wrong
        | some (v2, k2) => .right (x.toNat / 4 % 4) (decide (x.toNat % 2 = 1)) (decide (x.toNat / 2 % 2 = 1)) (wrap64 (v : Nat)) (wrap64 (v2 : Nat)) (1 + k + k2)
    else .unsaid
theorem drop_cons {l r : List UInt8} {i : Nat} {x : UInt8} (h : l.drop i = x :: r) : l[i]? = some x ∧ l.drop (i + 1) = r := by
  refine ⟨?_, ?_⟩
  · have := congrArg (fun l => l[0]?) h
    simpa [List.getElem?_drop] using this
  · rw [← List.drop_drop, h]; rfl
theorem decPane_right (B : Nat) (pe pl : Addr) (r g : Nat) (l : List UInt8) (i : Nat) (w : World) (h : Rd r g l i w) (he : Env B pe pl w) (hBr : B ≤ r) (hB : B ≤ w.heap.size) (t : Nat) (f la : Bool) (ix n : Int) (k : Nat) (hp : rdPane (l.drop i) = .right t f la ix n k) :
    Calls Tryz.prog 85 #[rdI r] w fun e w' => e = .returned (.tuple #[.agg #[.int .u8 (t : Nat), .bool f, .bool la, .int .i64 ix, .int .i64 n], .nilIface]) ∧ w.grownBy w' (some r) ∧ Rd r g l (i + k) w' := by
  cases hd : l.drop i with
  | nil => rw [hd] at hp; cases hp
  | cons x rr =>
    obtain ⟨hx, hr⟩ := drop_cons hd
    rw [hd] at hp
    simp only [rdPane] at hp
    by_cases c0 : x.toNat / 16 = 0
    · rw [if_pos c0] at hp
      injection hp with e1 e2 e3 e4 e5 e6
      subst e1 e2 e3 e4 e5 e6
      exact decPane_0 r g l i x w h hx c0
    rw [if_neg c0] at hp
    by_cases c1 : x.toNat / 16 = 1
    · rw [if_pos c1] at hp
      cases hv : vrd 0 0 rr with
      | none => rw [hv] at hp; cases hp
      | some p =>
        obtain ⟨v, kk⟩ := p
        rw [hv] at hp
        injection hp with e1 e2 e3 e4 e5 e6
        rw [← hr] at hv
        subst e1 e2 e3 e4 e5 e6
        rw [← Nat.add_assoc]
        by_cases y : x.toNat / 4 % 4 = 0
        · rw [if_pos y]; exact decPane_1z r g l i x w h hx c1 y B pe pl he hBr hB v kk hv
        · rw [if_neg y]; exact decPane_1 r g l i x w h hx c1 y B pe pl he hBr hB v kk hv
    rw [if_neg c1] at hp
    by_cases c2 : x.toNat / 16 = 2
    · rw [if_pos c2] at hp
      cases hv : vrd 0 0 rr with
      | none => rw [hv] at hp; cases hp
      | some p =>
        obtain ⟨v, kk⟩ := p
        rw [hv] at hp
        simp only at hp
        cases hv2 : vrd 0 0 (rr.drop kk) with
        | none => rw [hv2] at hp; cases hp
        | some p2 =>
          obtain ⟨v2, k2⟩ := p2
          rw [hv2] at hp
          injection hp with e1 e2 e3 e4 e5 e6
          rw [← hr] at hv hv2
          rw [List.drop_drop] at hv2
          subst e1 e2 e3 e4 e5 e6
          rw [show i + (1 + kk + k2) = i + 1 + kk + k2 by omega]
          exact decPane_2 r g l i x w h hx c2 B pe pl he hBr hB v kk v2 k2 hv hv2
    · rw [if_neg c2] at hp; cases hp
theorem decPane_wrong (B : Nat) (pe pl : Addr) (r g : Nat) (l : List UInt8) (i : Nat) (w : World) (h : Rd r g l i w) (he : Env B pe pl w) (hBr : B ≤ r) (hB : B ≤ w.heap.size) (hp : rdPane (l.drop i) = .wrong) :
    Calls Tryz.prog 85 #[rdI r] w fun e w' => ∃ ev, e = .returned (.tuple #[.agg #[.int .u8 0, .bool false, .bool false, .int .i64 0, .int .i64 0], ev]) ∧ Fell r g l w w' ev := by
  cases hd : l.drop i with
  | nil => exact decPane_eof r g l i w h (by have := congrArg List.length hd; rw [List.length_drop] at this; simp at this; omega) B pe pl he hBr hB
  | cons x rr =>
    obtain ⟨hx, hr⟩ := drop_cons hd
    rw [hd] at hp
    simp only [rdPane] at hp
    by_cases c0 : x.toNat / 16 = 0
    · rw [if_pos c0] at hp; cases hp
    rw [if_neg c0] at hp
    by_cases c1 : x.toNat / 16 = 1
    · rw [if_pos c1] at hp
      cases hv : vrd 0 0 rr with
      | none => rw [← hr] at hv; exact decPane_1b r g l i x w h hx c1 B pe pl he hBr hB hv
      | some p => obtain ⟨v, kk⟩ := p; rw [hv] at hp; cases hp
    rw [if_neg c1] at hp
    by_cases c2 : x.toNat / 16 = 2
    · rw [if_pos c2] at hp
      cases hv : vrd 0 0 rr with
      | none => rw [← hr] at hv; exact decPane_2b r g l i x w h hx c2 B pe pl he hBr hB hv
      | some p =>
        obtain ⟨v, kk⟩ := p
        rw [hv] at hp
        simp only at hp
        cases hv2 : vrd 0 0 (rr.drop kk) with
        | none =>
          rw [← hr] at hv hv2
          rw [List.drop_drop] at hv2
          exact decPane_2c r g l i x w h hx c2 B pe pl he hBr hB v kk hv hv2
        | some p2 => obtain ⟨v2, k2⟩ := p2; rw [hv2] at hp; cases hp
    · rw [if_neg c2] at hp; cases hp
end Go.Proofs.YtgdbeiadlgkedaaGreatDoor
