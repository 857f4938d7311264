-- PRINTED BY print.sh 35421559b90ae4d0a3588c463048766b98c2df88dd9212a6774a882060cdf62d: not written by this session
import Derived.Test.YtoigekmdicepnaaProg
import Derived.Below
import Derived.Deep.Draws
import Derived.Deep.AppendLies
import Derived.Maps.AppendAt
import Derived.OwnWalk
import Derived.Laws.BytesArg
import Derived.Laws.MakeOwn
import Derived.Laws.OwnMore
import Derived.Deep.OwnRows
import Derived.Tactics
import Derived.Lib.ConvBytes
import Derived.Laws.Slices
import Derived.WalkKit
import Derived.KernelRfl
import Derived.RowKit3
import Derived.Deep.LoopGhost
import Derived.Deep.QuietTactic
import Derived.BigQuiet
import Derived.WideLaws
import Derived.Deep.DeepCutAuto
import Derived.Deep.CutBlock
import Derived.Deep.RegionHeld3
import Derived.Laws.Rows
import Derived.Lib.AppendStr
import Derived.ArgAppend
import Derived.Laws.IdiomCopy
import Derived.OrdersHeld
import Derived.Laws.BitsLemmas
import Derived.RowKit
import Derived.Test.YtoigekmdicepnaaWWords
import Derived.Test.YtoigekmdicepnaaWLast
import Derived.Test.YtoigekmdicepnaaWTab
import Derived.Test.YtoigekmdicepnaaWFour
import Derived.Test.YtoigekmdicepnaaWQPut
import Derived.Test.YtoigekmdicepnaaWApart
import Derived.Test.YtoigekmdicepnaaWArr
import Derived.Test.YtoigekmdicepnaaWZeros
import Derived.Test.YtoigekmdicepnaaWFoot
import Derived.Test.YtoigekmdicepnaaWKept
import Derived.Test.YtoigekmdicepnaaWShare
import Derived.Test.YtoigekmdicepnaaWN
import Derived.Test.YtoigekmdicepnaaWFootNe
import Derived.Test.YtoigekmdicepnaaWAt
import Derived.Test.YtoigekmdicepnaaWEqStruct
import Derived.Test.YtoigekmdicepnaaWRepsOne
import Derived.Test.YtoigekmdicepnaaWInv
import Derived.Test.YtoigekmdicepnaaWInvWords
import Derived.Test.YtoigekmdicepnaaWGuard
import Derived.Test.YtoigekmdicepnaaWNEv
import Derived.Test.YtoigekmdicepnaaWMore
namespace Go.Proofs.Ytoigekmdicepnaa.PFnTimerRun
open Go.RowKit Go.Proofs.YtoigekmdicepnaaW.PrintWords Go.Proofs.YtoigekmdicepnaaW.PrintLast Go.Proofs.YtoigekmdicepnaaW.PrintMore
attribute [local go_sem] max2_int min2_int max_two min_two max_three min_three max_four min_four   -- for this text's walks alone
set_option linter.unusedVariables false
set_option linter.unusedSimpArgs false



def errW : Option Int → Value
  | none => .nilIface
  | some c => .iface 0 (.int .i64 c)
theorem errW_none : errW none = .nilIface := rfl
theorem errW_some (c : Int) : errW (some c) = .iface 0 (.int .i64 c) := rfl

-- the values' own types
/-! #### struct type 44 -/
structure S44 where
  f0 : Bool
  f1 : ByteArray
  f2 : Int
  f3 : Int
  f4 : ByteArray
  f5 : Bool
  f6 : Int
  f7 : Int
def z44 : S44 := ⟨false, (⟨#[]⟩ : ByteArray), (0 : Int), (0 : Int), (⟨#[]⟩ : ByteArray), false, (0 : Int), (0 : Int)⟩
def k44 : Kd S44 := Kd.iso (Kd.pair Kd.bool (Kd.pair Kd.string (Kd.pair (Kd.int .i64) (Kd.pair (Kd.int .i64) (Kd.pair Kd.string (Kd.pair Kd.bool (Kd.pair (Kd.int .i64) (Kd.int .i64)))))))) (fun x : S44 => (x.f0, x.f1, x.f2, x.f3, x.f4, x.f5, x.f6, x.f7))
theorem k44_open {w : World} {x : S44} {cs : List Value} (h : k44.K w x cs) : cs = [.bool x.f0, .string x.f1, .int .i64 x.f2, .int .i64 x.f3, .string x.f4, .bool x.f5, .int .i64 x.f6, .int .i64 x.f7] := by
  obtain ⟨_, _, rfl, rfl, ⟨_, _, rfl, rfl, ⟨_, _, rfl, rfl, ⟨_, _, rfl, rfl, ⟨_, _, rfl, rfl, ⟨_, _, rfl, rfl, ⟨_, _, rfl, rfl, rfl⟩⟩⟩⟩⟩⟩⟩ := h
  exact rfl
theorem k44_openM {w : World} {base : Nat} {ok : Nat → Prop} {x : S44} {cs : List Value} (h : k44.M w base ok x cs) : cs = [.bool x.f0, .string x.f1, .int .i64 x.f2, .int .i64 x.f3, .string x.f4, .bool x.f5, .int .i64 x.f6, .int .i64 x.f7] := by
  obtain ⟨_, _, rfl, rfl, ⟨_, _, rfl, rfl, ⟨_, _, rfl, rfl, ⟨_, _, rfl, rfl, ⟨_, _, rfl, rfl, ⟨_, _, rfl, rfl, ⟨_, _, rfl, rfl, rfl⟩⟩⟩⟩⟩⟩⟩ := h
  exact rfl
theorem k44_mk (w : World) (x : S44)  : k44.K w x [.bool x.f0, .string x.f1, .int .i64 x.f2, .int .i64 x.f3, .string x.f4, .bool x.f5, .int .i64 x.f6, .int .i64 x.f7] := ⟨[.bool x.f0], [.string x.f1, .int .i64 x.f2, .int .i64 x.f3, .string x.f4, .bool x.f5, .int .i64 x.f6, .int .i64 x.f7], rfl, rfl, ⟨[.string x.f1], [.int .i64 x.f2, .int .i64 x.f3, .string x.f4, .bool x.f5, .int .i64 x.f6, .int .i64 x.f7], rfl, rfl, ⟨[.int .i64 x.f2], [.int .i64 x.f3, .string x.f4, .bool x.f5, .int .i64 x.f6, .int .i64 x.f7], rfl, rfl, ⟨[.int .i64 x.f3], [.string x.f4, .bool x.f5, .int .i64 x.f6, .int .i64 x.f7], rfl, rfl, ⟨[.string x.f4], [.bool x.f5, .int .i64 x.f6, .int .i64 x.f7], rfl, rfl, ⟨[.bool x.f5], [.int .i64 x.f6, .int .i64 x.f7], rfl, rfl, ⟨[.int .i64 x.f6], [.int .i64 x.f7], rfl, rfl, rfl⟩⟩⟩⟩⟩⟩⟩
theorem k44_mkM (w : World) (base : Nat) (ok : Nat → Prop) (x : S44)  : k44.M w base ok x [.bool x.f0, .string x.f1, .int .i64 x.f2, .int .i64 x.f3, .string x.f4, .bool x.f5, .int .i64 x.f6, .int .i64 x.f7] := ⟨[.bool x.f0], [.string x.f1, .int .i64 x.f2, .int .i64 x.f3, .string x.f4, .bool x.f5, .int .i64 x.f6, .int .i64 x.f7], rfl, rfl, ⟨[.string x.f1], [.int .i64 x.f2, .int .i64 x.f3, .string x.f4, .bool x.f5, .int .i64 x.f6, .int .i64 x.f7], rfl, rfl, ⟨[.int .i64 x.f2], [.int .i64 x.f3, .string x.f4, .bool x.f5, .int .i64 x.f6, .int .i64 x.f7], rfl, rfl, ⟨[.int .i64 x.f3], [.string x.f4, .bool x.f5, .int .i64 x.f6, .int .i64 x.f7], rfl, rfl, ⟨[.string x.f4], [.bool x.f5, .int .i64 x.f6, .int .i64 x.f7], rfl, rfl, ⟨[.bool x.f5], [.int .i64 x.f6, .int .i64 x.f7], rfl, rfl, ⟨[.int .i64 x.f6], [.int .i64 x.f7], rfl, rfl, rfl⟩⟩⟩⟩⟩⟩⟩
def rd_T44 (xs : List S44) (i : Int) : S44 := xs.getD i.toNat z44
theorem at_T44 {w : World} {A : Option Addr} {n : Nat} {xs : List S44} (h : Kd.C k44 w A n xs) (i : Int) (h0 : 0 ≤ i) (h1 : i < n) : ∃ ad , A = some ad ∧ w.cell? (ad.add (i.toNat * 8)) = some (.bool (rd_T44 xs i).f0) ∧ w.cell? ⟨(ad.add (i.toNat * 8)).block, (ad.add (i.toNat * 8)).off + 1, none⟩ = some (.string (rd_T44 xs i).f1) ∧ w.cell? ⟨(ad.add (i.toNat * 8)).block, (ad.add (i.toNat * 8)).off + 2, none⟩ = some (.int .i64 (rd_T44 xs i).f2) ∧ w.cell? ⟨(ad.add (i.toNat * 8)).block, (ad.add (i.toNat * 8)).off + 3, none⟩ = some (.int .i64 (rd_T44 xs i).f3) ∧ w.cell? ⟨(ad.add (i.toNat * 8)).block, (ad.add (i.toNat * 8)).off + 4, none⟩ = some (.string (rd_T44 xs i).f4) ∧ w.cell? ⟨(ad.add (i.toNat * 8)).block, (ad.add (i.toNat * 8)).off + 5, none⟩ = some (.bool (rd_T44 xs i).f5) ∧ w.cell? ⟨(ad.add (i.toNat * 8)).block, (ad.add (i.toNat * 8)).off + 6, none⟩ = some (.int .i64 (rd_T44 xs i).f6) ∧ w.cell? ⟨(ad.add (i.toNat * 8)).block, (ad.add (i.toNat * 8)).off + 7, none⟩ = some (.int .i64 (rd_T44 xs i).f7) := by
  obtain ⟨ad, c, e, _, hK, hc0⟩ := Kd.C_get h z44 i h0 h1
  have hc : ∀ j u, c[j]? = some u → w.cell? (ad.add (i.toNat * 8 + j)) = some u := hc0
  obtain rfl := k44_open hK
  exact ⟨ad, e, hc 0 _ rfl, by rw [← add_field _ _ 1 (by omega)]; exact hc 1 _ rfl, by rw [← add_field _ _ 2 (by omega)]; exact hc 2 _ rfl, by rw [← add_field _ _ 3 (by omega)]; exact hc 3 _ rfl, by rw [← add_field _ _ 4 (by omega)]; exact hc 4 _ rfl, by rw [← add_field _ _ 5 (by omega)]; exact hc 5 _ rfl, by rw [← add_field _ _ 6 (by omega)]; exact hc 6 _ rfl, by rw [← add_field _ _ 7 (by omega)]; exact hc 7 _ rfl⟩

end Go.Proofs.Ytoigekmdicepnaa.PFnTimerRun
