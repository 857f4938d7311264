/- Contracts and plain laws, several texts in one. -/
import Derived.Test.YtgdbeiadlgkedaaGreatDoorMHeaderBack1
import Derived.Test.YtgdbeiadlgkedaaGreatDoorMHeaderBack2
import Derived.Test.YtgdbeiadlgkedaaGreatDoorMHeaderBack3
import Derived.Test.YtgdbeiadlgkedaaGreatDoorMHeaderBack4
import Derived.Test.YtgdbeiadlgkedaaGreatDoorMHeaderBack5
import Derived.Test.YtgdbeiadlgkedaaGreatDoorMHeaderBack8
import Derived.Test.YtgdbeiadlgkedaaGreatDoorMHeaderBack9
import Derived.Test.YtgdbeiadlgkedaaGreatDoorMHeaderBack10
import Derived.Test.YtgdbeiadlgkedaaGreatDoorMHeaderBack12
import Derived.Test.YtgdbeiadlgkedaaGreatDoorMHeaderBack13
import Derived.Test.YtgdbeiadlgkedaaGreatDoorProg
import Derived.Below
import Derived.Deep.Draws
import Derived.Deep.AppendLies
import Derived.Maps.AppendAt
import Derived.OwnWalk
import Derived.Laws.BytesArg
import Derived.Laws.MakeOwn
import Derived.Laws.OwnMore
import Derived.Deep.OwnRows
import Derived.Tactics
import Derived.Lib.ConvBytes
import Derived.Laws.Slices
import Derived.WalkKit
import Derived.KernelRfl
import Derived.RowKit3
import Derived.Deep.LoopGhost
import Derived.Deep.QuietTactic
import Derived.BigQuiet
import Derived.WideLaws
import Derived.Deep.DeepCutAuto
import Derived.Deep.CutBlock
import Derived.Deep.RegionHeld3
import Derived.Laws.Rows
import Derived.Lib.AppendStr
import Derived.ArgAppend
import Derived.Laws.IdiomCopy
import Derived.OrdersHeld
import Derived.Laws.BitsLemmas
import Derived.RowKit
import Derived.Lib.Varint
namespace Go.Proofs.YtgdbeiadlgkedaaGreatDoor.PFnWindowsRead
open Go.RowKit Go.Proofs.YtgdbeiadlgkedaaGreatDoorW.PrintWords Go.Proofs.YtgdbeiadlgkedaaGreatDoorW.PrintLast Go.Proofs.YtgdbeiadlgkedaaGreatDoorW.PrintMore
attribute [local go_sem] max2_int min2_int max_two min_two max_three min_three max_four min_four
set_option linter.unusedVariables false
set_option linter.unusedSimpArgs false
def errW : Option Int → Value
  | none => .nilIface
  | some c => .iface 0 (.int .i64 c)
theorem errW_none : errW none = .nilIface := rfl
theorem errW_some (c : Int) : errW (some c) = .iface 0 (.int .i64 c) := rfl
theorem info32 : (Tryz.prog.info? 32).map (fun i => (i.zero, i.size, i.bytes)) = some (some (.agg #[(.bool false), (.int .i64 0), (.int .i64 0)]), 3, 24) := by kernel_rfl
structure S23 where
  f0 : Bool
  f1 : Int
  f2 : Int
def z23 : S23 := ⟨false, (0 : Int), (0 : Int)⟩
def k23 : Kd S23 := Kd.iso (Kd.pair Kd.bool (Kd.pair (Kd.int .i64) (Kd.int .i64))) (fun x : S23 => (x.f0, x.f1, x.f2))
theorem k23_open {w : World} {x : S23} {cs : List Value} (h : k23.K w x cs) : cs = [.bool x.f0, .int .i64 x.f1, .int .i64 x.f2] := by
  obtain ⟨_, _, rfl, rfl, ⟨_, _, rfl, rfl, rfl⟩⟩ := h
  exact rfl
theorem k23_mkM (w : World) (base : Nat) (ok : Nat → Prop) (x : S23)  : k23.M w base ok x [.bool x.f0, .int .i64 x.f1, .int .i64 x.f2] := ⟨[.bool x.f0], [.int .i64 x.f1, .int .i64 x.f2], rfl, rfl, ⟨[.int .i64 x.f1], [.int .i64 x.f2], rfl, rfl, rfl⟩⟩
def rd_T23 (xs : List S23) (i : Int) : S23 := xs.getD i.toNat z23
theorem at_T23 {w : World} {A : Option Addr} {n : Nat} {xs : List S23} (h : Kd.C k23 w A n xs) (i : Int) (h0 : 0 ≤ i) (h1 : i < n) : ∃ ad , A = some ad ∧ w.cell? (ad.add (i.toNat * 3)) = some (.bool (rd_T23 xs i).f0) ∧ w.cell? ⟨(ad.add (i.toNat * 3)).block, (ad.add (i.toNat * 3)).off + 1, none⟩ = some (.int .i64 (rd_T23 xs i).f1) ∧ w.cell? ⟨(ad.add (i.toNat * 3)).block, (ad.add (i.toNat * 3)).off + 2, none⟩ = some (.int .i64 (rd_T23 xs i).f2) := by
  obtain ⟨ad, c, e, _, hK, hc0⟩ := Kd.C_get h z23 i h0 h1
  have hc : ∀ j u, c[j]? = some u → w.cell? (ad.add (i.toNat * 3 + j)) = some u := hc0
  obtain rfl := k23_open hK
  exact ⟨ad, e, hc 0 _ rfl, by rw [← add_field _ _ 1 (by omega)]; exact hc 1 _ rfl, by rw [← add_field _ _ 2 (by omega)]; exact hc 2 _ rfl⟩
structure S32 where
  f0 : Bool
  f1 : Int
  f2 : Int
def z32 : S32 := ⟨false, (0 : Int), (0 : Int)⟩
def k32 : Kd S32 := Kd.iso (Kd.pair Kd.bool (Kd.pair (Kd.int .i64) (Kd.int .i64))) (fun x : S32 => (x.f0, x.f1, x.f2))
theorem k32_open {w : World} {x : S32} {cs : List Value} (h : k32.K w x cs) : cs = [.bool x.f0, .int .i64 x.f1, .int .i64 x.f2] := by
  obtain ⟨_, _, rfl, rfl, ⟨_, _, rfl, rfl, rfl⟩⟩ := h
  exact rfl
theorem k32_mk (w : World) (x : S32)  : k32.K w x [.bool x.f0, .int .i64 x.f1, .int .i64 x.f2] := ⟨[.bool x.f0], [.int .i64 x.f1, .int .i64 x.f2], rfl, rfl, ⟨[.int .i64 x.f1], [.int .i64 x.f2], rfl, rfl, rfl⟩⟩
theorem k32_mkM (w : World) (base : Nat) (ok : Nat → Prop) (x : S32)  : k32.M w base ok x [.bool x.f0, .int .i64 x.f1, .int .i64 x.f2] := ⟨[.bool x.f0], [.int .i64 x.f1, .int .i64 x.f2], rfl, rfl, ⟨[.int .i64 x.f1], [.int .i64 x.f2], rfl, rfl, rfl⟩⟩
def rd_T32 (xs : List S32) (i : Int) : S32 := xs.getD i.toNat z32
theorem at_T32 {w : World} {A : Option Addr} {n : Nat} {xs : List S32} (h : Kd.C k32 w A n xs) (i : Int) (h0 : 0 ≤ i) (h1 : i < n) : ∃ ad , A = some ad ∧ w.cell? (ad.add (i.toNat * 3)) = some (.bool (rd_T32 xs i).f0) ∧ w.cell? ⟨(ad.add (i.toNat * 3)).block, (ad.add (i.toNat * 3)).off + 1, none⟩ = some (.int .i64 (rd_T32 xs i).f1) ∧ w.cell? ⟨(ad.add (i.toNat * 3)).block, (ad.add (i.toNat * 3)).off + 2, none⟩ = some (.int .i64 (rd_T32 xs i).f2) := by
  obtain ⟨ad, c, e, _, hK, hc0⟩ := Kd.C_get h z32 i h0 h1
  have hc : ∀ j u, c[j]? = some u → w.cell? (ad.add (i.toNat * 3 + j)) = some u := hc0
  obtain rfl := k32_open hK
  exact ⟨ad, e, hc 0 _ rfl, by rw [← add_field _ _ 1 (by omega)]; exact hc 1 _ rfl, by rw [← add_field _ _ 2 (by omega)]; exact hc 2 _ rfl⟩
end Go.Proofs.YtgdbeiadlgkedaaGreatDoor.PFnWindowsRead
set_option linter.unusedVariables false
set_option linter.unusedSimpArgs false
namespace Go.Proofs.YtgdbeiadlgkedaaGreatDoor.PFnWindowsRead
open Go.RowKit Go.Proofs.YtgdbeiadlgkedaaGreatDoorW.PrintWords Go.Proofs.YtgdbeiadlgkedaaGreatDoorW.PrintLast Go.Proofs.YtgdbeiadlgkedaaGreatDoorW.PrintMore
def spec_CodSpanTime.f (a0 : Int) : Option (Bool) := if a0 ≥ (-9223372036854775) then (some (decide (a0 ≤ 9223372036854775))) else (some false)
set_option maxHeartbeats 8000000 in
set_option maxRecDepth 100000 in
theorem spec_CodSpanTime.calls (a0 : Int) (r : Bool) (w : World) (h : spec_CodSpanTime.f a0 = some r) :
    Calls Tryz.prog 30 #[.int .i64 a0] w fun e w' => e = .returned (.bool r) ∧ Drawn0 w w' := by
  have H : (if a0 ≥ (-9223372036854775) then (some (decide (a0 ≤ 9223372036854775))) else (some false)) = some r := h
  clear h
  by_cases c2 : a0 ≥ (-9223372036854775)
  · rw [if_pos c2] at H
    have c2b0 : decide ((-9223372036854775) ≤ a0) = true := decide_eq_true c2
    clear c2
    obtain rfl := Option.some.inj H
    go_enter Tryz.func30, Tryz.ntmps30
    go_wp2
    go_ret
    exact ⟨by first | rfl | (simp; done) | (simp [*]; done), by repeat (first | exact Drawn0.refl _ | apply Drawn0.step)⟩
  · rw [if_neg c2] at H
    have c2b0 : decide ((-9223372036854775) ≤ a0) = false := decide_eq_false c2
    clear c2
    obtain rfl := Option.some.inj H
    go_enter Tryz.func30, Tryz.ntmps30
    go_wp2
    go_ret
    exact ⟨by first | rfl | (simp; done) | (simp [*]; done), by repeat (first | exact Drawn0.refl _ | apply Drawn0.step)⟩
end Go.Proofs.YtgdbeiadlgkedaaGreatDoor.PFnWindowsRead
set_option linter.unusedVariables false
set_option linter.unusedSimpArgs false
namespace Go.Proofs.YtgdbeiadlgkedaaGreatDoor
open Go.RowKit PFnWindowOne Go.Proofs.YtgdbeiadlgkedaaGreatDoorW.PrintWords
theorem eqA32 (d : Nat) (w : World) (x0 y0 : Bool) (x1 y1 : Int) (x2 y2 : Int) :
    (Op.equalIn (d + 2) 32 (.agg #[.bool x0, .int .i64 x1, .int .i64 x2]) (.agg #[.bool y0, .int .i64 y1, .int .i64 y2])).run Tryz.prog w = .ok (x0 == y0 && (x1 == y1 && (x2 == y2))) w := by
  refine eqA_of Tryz.underlying32 (by kernel_rfl) ?_
  refine eqf_cons (by rfl) (by go_simp; rfl) (by go_simp; rfl) (by go_simp) ?_
  refine eqf_cons (by rfl) (by go_simp; rfl) (by go_simp; rfl) (by go_simp) ?_
  exact eqf_last (by rfl) (by go_simp; rfl) (by go_simp; rfl) (by go_simp)
attribute [local go_sem high] eqA32
set_option maxHeartbeats 1000000 in
set_option maxRecDepth 100000 in
theorem same_eq (A0 : Option Addr) (c0 : Nat) (A1 : Option Addr) (c1 : Nat) (l : List S23) (w : World) (hr0 : Kd.C k32 w A0 l.length (l.map toS)) (hr1 : Kd.C k32 w A1 l.length (l.map toS)) :
    Calls Tryz.prog 18 #[.slice A0 l.length c0, .slice A1 l.length c1] w fun e w' => e = .returned (.bool true) ∧ ∃ q, w' = w.drewN q := by
  have HR0 := Aside0.mk hr0
  have HR1 := Aside0.mk hr1
  have hlen : l.length ≤ 9223372036854775807 := hr0.2.1
  have c3b0 : ((l.length : Int) == (l.length : Int)) = true := by simp
  have c3b1 : ((l.length : Int) != (l.length : Int)) = false := by simp
  clear hr0 hr1
  go_enter Tryz.func18, Tryz.ntmps18
  go_wp2
  repeat (go_quiet (fail); try go_wp2)
  go_loopg [13] l.length (fun kq v13 w' => ∃ k : Nat, k ≤ l.length ∧ Aside0 (kq = l.length - k) ∧ v13 = .int .i64 k ∧ ∃ q, w' = w.drewN q)
  case atStart => exact ⟨0, Nat.zero_le _, ⟨by simp⟩, rfl, ⟨0, rfl⟩⟩
  case round =>
    clear c3b0 c3b1
    obtain ⟨k, hk, hq, rfl, ⟨m1, rfl⟩⟩ := hrel
    by_cases hlt : k < l.length
    · obtain ⟨ad0, e0, hx0, hx1, hx2⟩ := atS HR0.out rfl k hlt
      cases e0
      obtain ⟨ad1, e1, hy0, hy1, hy2⟩ := atS HR1.out rfl k hlt
      cases e1
      have q0 : (k : Int) < (l.length : Int) := by omega
      have q2 : (0 : Int) ≤ (k : Int) := by omega
      go_wp2
      repeat (go_quiet (fail); try go_wp2)
      go_roundg (l.length - (k + 1))
      case measure => have := hq.out; omega
      case rel => exact ⟨k + 1, by omega, ⟨rfl⟩, by go_num, ⟨_, by first | rfl | exact World.drewN_drewN ..⟩⟩
    · go_wp2
      repeat (go_quiet (fail); try go_wp2)
      go_ret
      exact ⟨rfl, ⟨_, by first | rfl | exact World.drewN_drewN ..⟩⟩
theorem wins_read : ∀ (l : List S23) (rest : List UInt8), (∀ x ∈ l, okS (toS x)) → rdWins l.length (winsB l ++ rest) = some (l, (winsB l).length)
  | [], rest, _ => rfl
  | x :: l, rest, h => by
    obtain ⟨h0, h1, h2, h3⟩ := h x List.mem_cons_self
    obtain ⟨g, s, e⟩ := x
    simp only [toS] at h0 h1 h2 h3
    subst h0
    have hw : winsB ((⟨false, s, e⟩ : S23) :: l) = wbytes s e ++ winsB l := by simp [winsB]
    rw [hw, List.append_assoc]
    obtain ⟨r1, r2, r3, r4⟩ := win_read s e (winsB l ++ rest) (wbytes s e ++ (winsB l ++ rest)) 0 h1 h2 h3 (by rw [List.drop_zero])
    rw [Nat.zero_add] at r1 r3
    rw [List.drop_zero] at r2
    have hr : rdWin (wbytes s e ++ (winsB l ++ rest)) = some (⟨false, s, e⟩, (wbytes s e).length) := by
      unfold rdWin
      rw [if_neg (by omega), r3]
      simp only [Option.map_some]
      rw [show tmOf (wbytes s e ++ (winsB l ++ rest)) = e from r2, r4]
      congr 2
      unfold wbytes; rw [List.length_append, Lib.beBytes_length]
    show (rdWin _).bind _ = _
    rw [hr]
    simp only [Option.bind_some]
    rw [drop_pre rfl, wins_read l rest (fun y hy => h y (List.mem_cons_of_mem _ hy))]
    simp only [Option.map_some, List.length_append]
theorem head_read (n : Nat) (hn : n ≤ 10000) (rest l : List UInt8) (i : Nat) (hd : l.drop i = Lib.beBytes 4 n ++ rest) : i + 4 ≤ l.length ∧ wrap32 (Lib.beNat ((l.drop i).take 4) : Nat) = (n : Int) ∧ l.drop (i + 4) = rest := by
  have h4 := Lib.beBytes_length 4 n
  refine ⟨?_, ?_, ?_⟩
  · have := congrArg List.length hd
    rw [List.length_drop, List.length_append, h4] at this
    omega
  · rw [hd, take_pre h4, be4 _ (by omega)]; unfold wrap32; omega
  · rw [← List.drop_drop, hd, drop_pre h4]
end Go.Proofs.YtgdbeiadlgkedaaGreatDoor
set_option linter.unusedVariables false
set_option linter.unusedSimpArgs false
namespace Go.Proofs.YtgdbeiadlgkedaaGreatDoor
open Go.RowKit PFnWindowOne Go.Proofs.YtgdbeiadlgkedaaGreatDoorW.PrintWords
def kOf (b : Bool) : Int := if b then 1 else 0
theorem kind_any (b : Bool) (w : World) : Calls Tryz.prog 21 #[.bool b] w fun e w' => e = .returned (.int .i64 (kOf b)) ∧ w = w' := by
  cases b
  · go_enter Tryz.func21, Tryz.ntmps21
    go_wp2
    go_ret
    exact ⟨rfl, rfl⟩
  · go_enter Tryz.func21, Tryz.ntmps21
    go_wp2
    go_ret
    exact ⟨rfl, rfl⟩
end Go.Proofs.YtgdbeiadlgkedaaGreatDoor
set_option linter.unusedVariables false
set_option linter.unusedSimpArgs false
namespace Go.Proofs.YtgdbeiadlgkedaaGreatDoor
open Go.RowKit PFnWindowOne Go.Proofs.YtgdbeiadlgkedaaGreatDoorW.PrintWords
theorem hd_parts (b : Bool) (l : List S23) (tm : Int) (htm : -9223372036854775808 ≤ tm ∧ tm ≤ 9223372036854775807) (t : Nat) (f ll : Bool) (i k : Int) (rest L : List UInt8) (h : L = hdB b l tm t f ll i k ++ rest) :
    0 + 8 ≤ L.length ∧ wrap64 (wrap64 (Lib.beNat ((L.drop 0).take 8) : Nat) + -9223372036854775808) = tm ∧ L.drop (0 + 8) = wsB b l ++ (pbytes t f ll i k ++ rest) := by
  have h8 := Lib.beBytes_length 8 (tm + 9223372036854775808).toNat
  have hh : L = Lib.beBytes 8 (tm + 9223372036854775808).toNat ++ (wsB b l ++ (pbytes t f ll i k ++ rest)) := by rw [h]; unfold hdB; simp only [List.append_assoc]
  refine ⟨?_, ?_, ?_⟩
  · rw [hh, List.length_append, h8]; omega
  · rw [List.drop_zero, hh, take_pre h8, be8 _ (by omega), time_back tm htm]
  · rw [Nat.zero_add, hh, drop_pre h8]
def wantL (b : Bool) (l : List S23) : List S23 := if b then l else [gSp]
theorem hdB_len (b : Bool) (l : List S23) (tm : Int) (t : Nat) (f ll : Bool) (i k : Int) : (hdB b l tm t f ll i k).length = 8 + (wsB b l).length + (pbytes t f ll i k).length := by
  unfold hdB; rw [List.length_append, List.length_append, Lib.beBytes_length]
theorem z_of1 {a c z : Nat} (h : z = 8 + (4 + a) + c) : 0 + 8 + 4 + a + c = z := by omega
theorem z_of0 {c z : Nat} (h : z = 8 + 4 + c) : 0 + 8 + 4 + c = z := by omega
theorem four_in {L : List UInt8} {i : Nat} {r : List UInt8} (h : L.drop i = [0, 0, 0, 1] ++ r) : i + 4 ≤ L.length := by
  have := congrArg List.length h; rw [List.length_drop] at this; simp at this; omega
theorem headOf_back (B : Nat) (pe pl : Addr) (b : Bool) (l : List S23) (hok : ∀ x ∈ l, okS (toS x)) (hl : l.length ≤ 20) (tm : Int) (htm : -9223372036854775808 ≤ tm ∧ tm ≤ 9223372036854775807) (t : Nat) (ht : t < 4) (f ll : Bool) (i k : Int) (hi : -9223372036854775808 ≤ i ∧ i ≤ 9223372036854775807) (hk : -9223372036854775808 ≤ k ∧ k ≤ 9223372036854775807) (hp : t = 0 → k = -1 ∨ (i = 0 ∧ k = 0)) (tx : ByteArray) (htx : tx.size ≤ 4294967296) (rest : List UInt8) (h : tx.data.toList = hdB b l tm t f ll i k ++ rest) (z : Nat) (hz : z = (hdB b l tm t f ll i k).length) (w : World) (he : Env B pe pl w) (hB : B ≤ w.heap.size) :
    Calls Tryz.prog 23 #[.int .i64 (kOf b), .string tx] w fun x w' => ∃ (A : Option Addr) (c : Nat), x = .returned (.tuple #[.slice A (wantL b l).length c, .int .i64 tm, .agg #[.int .i64 (t : Nat), .bool f, .bool ll, .int .i64 (if t = 3 then 0 else i), .int .i64 (if t = 3 then 0 else k)], .int .i64 (z : Nat), .string ⟨#[]⟩]) ∧ Kd.C k23 w' A (wantL b l).length (wantL b l) ∧ (wantL b l).length ≤ c ∧ Below w.heap.size w w' := by
  have l1 : l.length ≤ 1000000 := by omega
  have l2 : l.length ≤ 10000 := by omega
  have t1 : t < 256 := by omega
  obtain ⟨h8, hT, hd⟩ := hd_parts b l tm htm t f ll i k rest tx.data.toList h
  have hpr := pane_read t ht f ll i k hi hk hp rest
  rw [hdB_len] at hz
  cases b with
  | true =>
    have hws : wsB true l = Lib.beBytes 4 l.length ++ winsB l := rfl
    rw [hws, List.append_assoc] at hd
    obtain ⟨e1, e2, e3⟩ := head_read l.length l2 (winsB l ++ (pbytes t f ll i k ++ rest)) tx.data.toList (0 + 8) hd
    have hr := wins_read l (pbytes t f ll i k ++ rest) hok
    rw [← e3] at hr
    have hdp : tx.data.toList.drop (0 + 8 + 4 + (winsB l).length) = pbytes t f ll i k ++ rest := by rw [← List.drop_drop, e3, List.drop_left]
    rw [← hdp] at hpr
    have hzz : 0 + 8 + 4 + (winsB l).length + (pbytes t f ll i k).length = z := z_of1 (by rw [hz, hws, List.length_append, Lib.beBytes_length])
    have := headOf_1_right B pe pl tx w htx he hB h8 tm hT l.length l1 l (0 + 8 + 4 + (winsB l).length)
      (fun r g a W h1 h2 h3 h4 => decAll_ok B pe pl a r g tx.data.toList (0 + 8) W h1 h2 h3 h4 e1 l.length e2 l2 l _ hr)
      t t1 f ll _ _ _ z hpr hzz
    rw [nz_id (fun x hx => (hok x hx).1)] at this
    exact this
  | false =>
    have hws : wsB false l = [0, 0, 0, 1] := rfl
    rw [hws] at hd
    have e1 : 0 + 8 + 4 ≤ tx.data.toList.length := four_in hd
    have hdp : tx.data.toList.drop (0 + 8 + 4) = pbytes t f ll i k ++ rest := by rw [← List.drop_drop, hd]; rfl
    rw [← hdp] at hpr
    have hzz : 0 + 8 + 4 + (pbytes t f ll i k).length = z := z_of0 (by rw [hz, hws]; rfl)
    have := headOf_0_right B pe pl tx w htx he hB h8 tm hT 1 (by decide) [gSp] (0 + 8 + 4)
      (fun r g a W h1 h2 h3 h4 => decGlob_row a r g tx.data.toList (0 + 8) W h1 e1)
      t t1 f ll _ _ _ z hpr hzz
    exact this
end Go.Proofs.YtgdbeiadlgkedaaGreatDoor
set_option linter.unusedVariables false
set_option linter.unusedSimpArgs false
namespace Go.Proofs.YtgdbeiadlgkedaaGreatDoor
open Go.RowKit PFnWindowOne Go.Proofs.YtgdbeiadlgkedaaGreatDoorW.PrintWords
theorem encHd_any (b : Bool) (l : List S23) (hok : ∀ x ∈ l, okS (toS x)) (hl : l.length ≤ 20) (A : Option Addr) (c : Nat) (tm : Int) (htm : -9223372036854775808 ≤ tm ∧ tm ≤ 9223372036854775807) (t : Nat) (ht : t < 4) (f ll : Bool) (i n : Int) (hp : t = 0 → n = -1 ∨ (i = 0 ∧ n = 0)) (w : World) (hC : Kd.C k23 w A l.length l) (hc : l.length ≤ c) :
    Calls Tryz.prog 22 #[.int .i64 (kOf b), .slice A l.length c, .int .i64 tm, .agg #[.int .i64 (t : Nat), .bool f, .bool ll, .int .i64 i, .int .i64 n]] w fun x w' => x = .returned (.tuple #[.string ⟨(hdB b l tm t f ll i n).toArray⟩, .string ⟨#[]⟩]) ∧ Below w.heap.size w w' := by
  cases b
  · exact encHd_0 l hok hl A c tm htm t ht f ll i n hp w hC hc
  · exact encHd_1 l hok hl A c tm htm t ht f ll i n hp w hC hc
section
variable {P : Program} {ops : Array Oper} {o : Oper} {a : Act} {Q : Exit → Act → World → Prop} {Kc : Act → World → Prop}
theorem R_append_winsS {w0 W : World} (base : Nat) (hw : Region.wanted o (yielded ops a.tmps) = true) (s x : Operand) (t : TypeId)
    (ho : o.op = .call { callee := .builtin .append, args := #[s, x], argTypes := #[t, t] })
    (ht : P.underlying t = some (.slice 23)) (hinfo : (P.info? 23).map (fun i => (i.zero, i.size, i.bytes)) = some (some (.agg #[(.bool false), (.int .i64 0), (.int .i64 0)]), 3, 24))
    (v : Value) (xs ys : List S23) (A : Option Addr) (m c : Nat) (hs : a.eval s = v) (hx : a.eval x = .slice A m c)
    (HO : Kd.R k23 23 W base (fun _ => True) v xs) (HR : Kd.C k23 W A m ys) (HB : Below base w0 W) (hbase : base ≤ W.heap.size) (hl : (xs.length + m) * 24 ≤ 140737488355328)
    (h : ∀ A1 c1 w1, Kd.R k23 23 w1 base (fun _ => True) (.slice A1 (xs ++ ys).length c1) (xs ++ ys) → Below base w0 w1 → W.grownBy w1 v.ownBlock → Kc (a.put o.dst (.slice A1 (xs ++ ys).length c1)) w1) :
    if Region.wanted o (yielded ops a.tmps) = true then Oper.wp P o a W Kc Q else Kc (a.put o.dst undef) W := by
  refine Kd.R_append_rows_step k23 (Rr := k23.K W) (w0 := w0) base hw s x t 23 _ 24 ho ht hinfo rfl (by decide) (by decide) v xs ys A m c (fun _ => True) (fun _ => False) hs hx HO HR (fun _ _ q => q) (fun _ q => q.elim) (fun _ _ => trivial) HB hbase hl (fun v1 w1 h1 h2 h3 _ => ?_)
  obtain ⟨A1, c1, hv⟩ := Kd.R_slice h1
  subst hv
  exact h A1 c1 w1 h1 h2 h3
end
end Go.Proofs.YtgdbeiadlgkedaaGreatDoor
