-- PRINTED BY print.sh 35421559b90ae4d0a3588c463048766b98c2df88dd9212a6774a882060cdf62d: not written by this session
import Derived.Test.YtoigekmdicepnaaProg
import Derived.Below
import Derived.Deep.Draws
import Derived.Deep.AppendLies
import Derived.Maps.AppendAt
import Derived.OwnWalk
import Derived.Laws.BytesArg
import Derived.Laws.MakeOwn
import Derived.Laws.OwnMore
import Derived.Deep.OwnRows
import Derived.Tactics
import Derived.Lib.ConvBytes
import Derived.Laws.Slices
import Derived.WalkKit
import Derived.KernelRfl
import Derived.RowKit3
import Derived.Deep.LoopGhost
import Derived.Deep.QuietTactic
import Derived.BigQuiet
import Derived.WideLaws
import Derived.Deep.DeepCutAuto
import Derived.Deep.CutBlock
import Derived.Deep.RegionHeld3
import Derived.Laws.Rows
import Derived.Lib.AppendStr
import Derived.ArgAppend
import Derived.Laws.IdiomCopy
import Derived.OrdersHeld
import Derived.Laws.BitsLemmas
import Derived.RowKit
import Derived.Test.YtoigekmdicepnaaWWords
import Derived.Test.YtoigekmdicepnaaWLast
import Derived.Test.YtoigekmdicepnaaWTab
import Derived.Test.YtoigekmdicepnaaWFour
import Derived.Test.YtoigekmdicepnaaWQPut
import Derived.Test.YtoigekmdicepnaaWApart
import Derived.Test.YtoigekmdicepnaaWArr
import Derived.Test.YtoigekmdicepnaaWZeros
import Derived.Test.YtoigekmdicepnaaWFoot
import Derived.Test.YtoigekmdicepnaaWKept
import Derived.Test.YtoigekmdicepnaaWShare
import Derived.Test.YtoigekmdicepnaaWN
import Derived.Test.YtoigekmdicepnaaWFootNe
import Derived.Test.YtoigekmdicepnaaWAt
import Derived.Test.YtoigekmdicepnaaWEqStruct
import Derived.Test.YtoigekmdicepnaaWRepsOne
import Derived.Test.YtoigekmdicepnaaWInv
import Derived.Test.YtoigekmdicepnaaWInvWords
import Derived.Test.YtoigekmdicepnaaWGuard
import Derived.Test.YtoigekmdicepnaaWNEv
import Derived.Test.YtoigekmdicepnaaWMore
namespace Go.Proofs.Ytoigekmdicepnaa.PFnMapState
open Go.RowKit Go.Proofs.YtoigekmdicepnaaW.PrintWords Go.Proofs.YtoigekmdicepnaaW.PrintLast Go.Proofs.YtoigekmdicepnaaW.PrintMore
attribute [local go_sem] max2_int min2_int max_two min_two max_three min_three max_four min_four   -- for this text's walks alone
set_option linter.unusedVariables false
set_option linter.unusedSimpArgs false



def errW : Option Int → Value
  | none => .nilIface
  | some c => .iface 0 (.int .i64 c)
theorem errW_none : errW none = .nilIface := rfl
theorem errW_some (c : Int) : errW (some c) = .iface 0 (.int .i64 c) := rfl

theorem info9 : (Try.prog.info? 9).map (fun i => (i.zero, i.size, i.bytes)) = some (some (.string ⟨#[]⟩), 1, 16) := by kernel_rfl
-- the values' own types
/-! #### struct type 26 -/
structure S26 where
  f0 : Int
  f1 : ByteArray
  f2 : Int
  f3 : Int
  f4 : Int
def z26 : S26 := ⟨(0 : Int), (⟨#[]⟩ : ByteArray), (0 : Int), (0 : Int), (0 : Int)⟩
def k26 : Kd S26 := Kd.iso (Kd.pair (Kd.int .i64) (Kd.pair Kd.string (Kd.pair (Kd.int .i64) (Kd.pair (Kd.int .i64) (Kd.int .i64))))) (fun x : S26 => (x.f0, x.f1, x.f2, x.f3, x.f4))
theorem k26_open {w : World} {x : S26} {cs : List Value} (h : k26.K w x cs) : cs = [.int .i64 x.f0, .string x.f1, .int .i64 x.f2, .int .i64 x.f3, .int .i64 x.f4] := by
  obtain ⟨_, _, rfl, rfl, ⟨_, _, rfl, rfl, ⟨_, _, rfl, rfl, ⟨_, _, rfl, rfl, rfl⟩⟩⟩⟩ := h
  exact rfl
theorem k26_openM {w : World} {base : Nat} {ok : Nat → Prop} {x : S26} {cs : List Value} (h : k26.M w base ok x cs) : cs = [.int .i64 x.f0, .string x.f1, .int .i64 x.f2, .int .i64 x.f3, .int .i64 x.f4] := by
  obtain ⟨_, _, rfl, rfl, ⟨_, _, rfl, rfl, ⟨_, _, rfl, rfl, ⟨_, _, rfl, rfl, rfl⟩⟩⟩⟩ := h
  exact rfl
theorem k26_mk (w : World) (x : S26)  : k26.K w x [.int .i64 x.f0, .string x.f1, .int .i64 x.f2, .int .i64 x.f3, .int .i64 x.f4] := ⟨[.int .i64 x.f0], [.string x.f1, .int .i64 x.f2, .int .i64 x.f3, .int .i64 x.f4], rfl, rfl, ⟨[.string x.f1], [.int .i64 x.f2, .int .i64 x.f3, .int .i64 x.f4], rfl, rfl, ⟨[.int .i64 x.f2], [.int .i64 x.f3, .int .i64 x.f4], rfl, rfl, ⟨[.int .i64 x.f3], [.int .i64 x.f4], rfl, rfl, rfl⟩⟩⟩⟩
theorem k26_mkM (w : World) (base : Nat) (ok : Nat → Prop) (x : S26)  : k26.M w base ok x [.int .i64 x.f0, .string x.f1, .int .i64 x.f2, .int .i64 x.f3, .int .i64 x.f4] := ⟨[.int .i64 x.f0], [.string x.f1, .int .i64 x.f2, .int .i64 x.f3, .int .i64 x.f4], rfl, rfl, ⟨[.string x.f1], [.int .i64 x.f2, .int .i64 x.f3, .int .i64 x.f4], rfl, rfl, ⟨[.int .i64 x.f2], [.int .i64 x.f3, .int .i64 x.f4], rfl, rfl, ⟨[.int .i64 x.f3], [.int .i64 x.f4], rfl, rfl, rfl⟩⟩⟩⟩
def rd_T26 (xs : List S26) (i : Int) : S26 := xs.getD i.toNat z26
theorem at_T26 {w : World} {A : Option Addr} {n : Nat} {xs : List S26} (h : Kd.C k26 w A n xs) (i : Int) (h0 : 0 ≤ i) (h1 : i < n) : ∃ ad , A = some ad ∧ w.cell? (ad.add (i.toNat * 5)) = some (.int .i64 (rd_T26 xs i).f0) ∧ w.cell? ⟨(ad.add (i.toNat * 5)).block, (ad.add (i.toNat * 5)).off + 1, none⟩ = some (.string (rd_T26 xs i).f1) ∧ w.cell? ⟨(ad.add (i.toNat * 5)).block, (ad.add (i.toNat * 5)).off + 2, none⟩ = some (.int .i64 (rd_T26 xs i).f2) ∧ w.cell? ⟨(ad.add (i.toNat * 5)).block, (ad.add (i.toNat * 5)).off + 3, none⟩ = some (.int .i64 (rd_T26 xs i).f3) ∧ w.cell? ⟨(ad.add (i.toNat * 5)).block, (ad.add (i.toNat * 5)).off + 4, none⟩ = some (.int .i64 (rd_T26 xs i).f4) := by
  obtain ⟨ad, c, e, _, hK, hc0⟩ := Kd.C_get h z26 i h0 h1
  have hc : ∀ j u, c[j]? = some u → w.cell? (ad.add (i.toNat * 5 + j)) = some u := hc0
  obtain rfl := k26_open hK
  exact ⟨ad, e, hc 0 _ rfl, by rw [← add_field _ _ 1 (by omega)]; exact hc 1 _ rfl, by rw [← add_field _ _ 2 (by omega)]; exact hc 2 _ rfl, by rw [← add_field _ _ 3 (by omega)]; exact hc 3 _ rfl, by rw [← add_field _ _ 4 (by omega)]; exact hc 4 _ rfl⟩

def rd_L4 (xs : List (List Int)) (i : Int) : (List Int) := xs.getD i.toNat ([] : List Int)
theorem at_L4 {w : World} {A : Option Addr} {n : Nat} {xs : List (List Int)} (h : Kd.C (Kd.slice 2 (Kd.int .i64)) w A n xs) (i : Int) (h0 : 0 ≤ i) (h1 : i < n) : ∃ ad A0 c0, A = some ad ∧ w.cell? (ad.add i.toNat) = some (.slice A0 (rd_L4 xs i).length c0) ∧ (rd_L4 xs i).length ≤ c0 ∧ (Kd.int .i64).C w A0 (rd_L4 xs i).length (rd_L4 xs i) := by
  obtain ⟨ad, c, e, _, hK, hc0⟩ := Kd.C_get h ([] : List Int) i h0 h1
  have hc : ∀ j u, c[j]? = some u → w.cell? (ad.add (i.toNat * 1 + j)) = some u := hc0
  obtain ⟨A0, c0, rfl, l0, g0⟩ := hK
  exact ⟨ad, A0, c0, e, by have hq := hc 0 _ rfl; rwa [Nat.mul_one, Nat.add_zero] at hq, l0, g0⟩

def rd_L5 (xs : List (List ByteArray)) (i : Int) : (List ByteArray) := xs.getD i.toNat ([] : List ByteArray)
theorem at_L5 {w : World} {A : Option Addr} {n : Nat} {xs : List (List ByteArray)} (h : Kd.C (Kd.slice 9 Kd.string) w A n xs) (i : Int) (h0 : 0 ≤ i) (h1 : i < n) : ∃ ad A0 c0, A = some ad ∧ w.cell? (ad.add i.toNat) = some (.slice A0 (rd_L5 xs i).length c0) ∧ (rd_L5 xs i).length ≤ c0 ∧ Kd.string.C w A0 (rd_L5 xs i).length (rd_L5 xs i) := by
  obtain ⟨ad, c, e, _, hK, hc0⟩ := Kd.C_get h ([] : List ByteArray) i h0 h1
  have hc : ∀ j u, c[j]? = some u → w.cell? (ad.add (i.toNat * 1 + j)) = some u := hc0
  obtain ⟨A0, c0, rfl, l0, g0⟩ := hK
  exact ⟨ad, A0, c0, e, by have hq := hc 0 _ rfl; rwa [Nat.mul_one, Nat.add_zero] at hq, l0, g0⟩

/-! #### struct type 36 -/
structure S36 where
  f0 : Bool
  f1 : (List Int)
  f2 : (List ByteArray)
  f3 : (List Int)
def z36 : S36 := ⟨false, ([] : List Int), ([] : List ByteArray), ([] : List Int)⟩
def k36 : Kd S36 := Kd.iso (Kd.pair Kd.bool (Kd.pair (Kd.slice 2 (Kd.int .i64)) (Kd.pair (Kd.slice 9 Kd.string) (Kd.slice 2 (Kd.int .i64))))) (fun x : S36 => (x.f0, x.f1, x.f2, x.f3))
theorem k36_open {w : World} {x : S36} {cs : List Value} (h : k36.K w x cs) : ∃ A1 c1 A2 c2 A3 c3, cs = [.bool x.f0, .slice A1 x.f1.length c1, .slice A2 x.f2.length c2, .slice A3 x.f3.length c3] ∧ x.f1.length ≤ c1 ∧ (Kd.int .i64).C w A1 x.f1.length x.f1 ∧ x.f2.length ≤ c2 ∧ Kd.string.C w A2 x.f2.length x.f2 ∧ x.f3.length ≤ c3 ∧ (Kd.int .i64).C w A3 x.f3.length x.f3 := by
  obtain ⟨_, _, rfl, rfl, ⟨_, _, rfl, ⟨A1, c1, rfl, l1, g1⟩, ⟨_, _, rfl, ⟨A2, c2, rfl, l2, g2⟩, ⟨A3, c3, rfl, l3, g3⟩⟩⟩⟩ := h
  exact ⟨A1, c1, A2, c2, A3, c3, rfl, l1, g1, l2, g2, l3, g3⟩
theorem k36_openM {w : World} {base : Nat} {ok : Nat → Prop} {x : S36} {cs : List Value} (h : k36.M w base ok x cs) : ∃ v1 v2 v3, cs = [.bool x.f0, v1, v2, v3] ∧ (Kd.int .i64).R 2 w base ok v1 x.f1 ∧ Kd.string.R 9 w base ok v2 x.f2 ∧ (Kd.int .i64).R 2 w base ok v3 x.f3 := by
  obtain ⟨_, _, rfl, rfl, ⟨_, _, rfl, ⟨v1, rfl, g1⟩, ⟨_, _, rfl, ⟨v2, rfl, g2⟩, ⟨v3, rfl, g3⟩⟩⟩⟩ := h
  exact ⟨v1, v2, v3, rfl, g1, g2, g3⟩
theorem k36_mk (w : World) (x : S36) {A1 : Option Addr} {c1 : Nat} (l1 : x.f1.length ≤ c1) (g1 : (Kd.int .i64).C w A1 x.f1.length x.f1) {A2 : Option Addr} {c2 : Nat} (l2 : x.f2.length ≤ c2) (g2 : Kd.string.C w A2 x.f2.length x.f2) {A3 : Option Addr} {c3 : Nat} (l3 : x.f3.length ≤ c3) (g3 : (Kd.int .i64).C w A3 x.f3.length x.f3) : k36.K w x [.bool x.f0, .slice A1 x.f1.length c1, .slice A2 x.f2.length c2, .slice A3 x.f3.length c3] := ⟨[.bool x.f0], [.slice A1 x.f1.length c1, .slice A2 x.f2.length c2, .slice A3 x.f3.length c3], rfl, rfl, ⟨[.slice A1 x.f1.length c1], [.slice A2 x.f2.length c2, .slice A3 x.f3.length c3], rfl, ⟨A1, c1, rfl, l1, g1⟩, ⟨[.slice A2 x.f2.length c2], [.slice A3 x.f3.length c3], rfl, ⟨A2, c2, rfl, l2, g2⟩, ⟨A3, c3, rfl, l3, g3⟩⟩⟩⟩
theorem k36_mkM (w : World) (base : Nat) (ok : Nat → Prop) (x : S36) {v1 : Value} (g1 : (Kd.int .i64).R 2 w base ok v1 x.f1) {v2 : Value} (g2 : Kd.string.R 9 w base ok v2 x.f2) {v3 : Value} (g3 : (Kd.int .i64).R 2 w base ok v3 x.f3) : k36.M w base ok x [.bool x.f0, v1, v2, v3] := ⟨[.bool x.f0], [v1, v2, v3], rfl, rfl, ⟨[v1], [v2, v3], rfl, ⟨v1, rfl, g1⟩, ⟨[v2], [v3], rfl, ⟨v2, rfl, g2⟩, ⟨v3, rfl, g3⟩⟩⟩⟩
def rd_T36 (xs : List S36) (i : Int) : S36 := xs.getD i.toNat z36
theorem at_T36 {w : World} {A : Option Addr} {n : Nat} {xs : List S36} (h : Kd.C k36 w A n xs) (i : Int) (h0 : 0 ≤ i) (h1 : i < n) : ∃ ad A1 c1 A2 c2 A3 c3, A = some ad ∧ w.cell? (ad.add (i.toNat * 4)) = some (.bool (rd_T36 xs i).f0) ∧ w.cell? ⟨(ad.add (i.toNat * 4)).block, (ad.add (i.toNat * 4)).off + 1, none⟩ = some (.slice A1 (rd_T36 xs i).f1.length c1) ∧ w.cell? ⟨(ad.add (i.toNat * 4)).block, (ad.add (i.toNat * 4)).off + 2, none⟩ = some (.slice A2 (rd_T36 xs i).f2.length c2) ∧ w.cell? ⟨(ad.add (i.toNat * 4)).block, (ad.add (i.toNat * 4)).off + 3, none⟩ = some (.slice A3 (rd_T36 xs i).f3.length c3) ∧ (rd_T36 xs i).f1.length ≤ c1 ∧ (Kd.int .i64).C w A1 (rd_T36 xs i).f1.length (rd_T36 xs i).f1 ∧ (rd_T36 xs i).f2.length ≤ c2 ∧ Kd.string.C w A2 (rd_T36 xs i).f2.length (rd_T36 xs i).f2 ∧ (rd_T36 xs i).f3.length ≤ c3 ∧ (Kd.int .i64).C w A3 (rd_T36 xs i).f3.length (rd_T36 xs i).f3 := by
  obtain ⟨ad, c, e, _, hK, hc0⟩ := Kd.C_get h z36 i h0 h1
  have hc : ∀ j u, c[j]? = some u → w.cell? (ad.add (i.toNat * 4 + j)) = some u := hc0
  obtain ⟨A1, c1, A2, c2, A3, c3, rfl, l1, g1, l2, g2, l3, g3⟩ := k36_open hK
  exact ⟨ad, A1, c1, A2, c2, A3, c3, e, hc 0 _ rfl, by rw [← add_field _ _ 1 (by omega)]; exact hc 1 _ rfl, by rw [← add_field _ _ 2 (by omega)]; exact hc 2 _ rfl, by rw [← add_field _ _ 3 (by omega)]; exact hc 3 _ rfl, l1, g1, l2, g2, l3, g3⟩

/-! #### struct type 73 -/
structure S73 where
  f0 : ByteArray
  f1 : Int
def z73 : S73 := ⟨(⟨#[]⟩ : ByteArray), (0 : Int)⟩
def k73 : Kd S73 := Kd.iso (Kd.pair Kd.string (Kd.int .i64)) (fun x : S73 => (x.f0, x.f1))
theorem k73_open {w : World} {x : S73} {cs : List Value} (h : k73.K w x cs) : cs = [.string x.f0, .int .i64 x.f1] := by
  obtain ⟨_, _, rfl, rfl, rfl⟩ := h
  exact rfl
theorem k73_openM {w : World} {base : Nat} {ok : Nat → Prop} {x : S73} {cs : List Value} (h : k73.M w base ok x cs) : cs = [.string x.f0, .int .i64 x.f1] := by
  obtain ⟨_, _, rfl, rfl, rfl⟩ := h
  exact rfl
theorem k73_mk (w : World) (x : S73)  : k73.K w x [.string x.f0, .int .i64 x.f1] := ⟨[.string x.f0], [.int .i64 x.f1], rfl, rfl, rfl⟩
theorem k73_mkM (w : World) (base : Nat) (ok : Nat → Prop) (x : S73)  : k73.M w base ok x [.string x.f0, .int .i64 x.f1] := ⟨[.string x.f0], [.int .i64 x.f1], rfl, rfl, rfl⟩
def rd_T73 (xs : List S73) (i : Int) : S73 := xs.getD i.toNat z73
theorem at_T73 {w : World} {A : Option Addr} {n : Nat} {xs : List S73} (h : Kd.C k73 w A n xs) (i : Int) (h0 : 0 ≤ i) (h1 : i < n) : ∃ ad , A = some ad ∧ w.cell? (ad.add (i.toNat * 2)) = some (.string (rd_T73 xs i).f0) ∧ w.cell? ⟨(ad.add (i.toNat * 2)).block, (ad.add (i.toNat * 2)).off + 1, none⟩ = some (.int .i64 (rd_T73 xs i).f1) := by
  obtain ⟨ad, c, e, _, hK, hc0⟩ := Kd.C_get h z73 i h0 h1
  have hc : ∀ j u, c[j]? = some u → w.cell? (ad.add (i.toNat * 2 + j)) = some u := hc0
  obtain rfl := k73_open hK
  exact ⟨ad, e, hc 0 _ rfl, by rw [← add_field _ _ 1 (by omega)]; exact hc 1 _ rfl⟩

end Go.Proofs.Ytoigekmdicepnaa.PFnMapState
