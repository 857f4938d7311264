/- Contracts and plain laws, several texts in one. -/
import Derived.Test.YtgdbeiadlgkedaaDoorMCut2
import Derived.Test.YtgdbeiadlgkedaaDoorMCut3
import Derived.Test.YtgdbeiadlgkedaaDoorMCut4
import Derived.Test.YtgdbeiadlgkedaaDoorMCut7
import Derived.Test.YtgdbeiadlgkedaaDoorMCut9
import Derived.Laws.CopyRow
import Derived.Test.YtgdbeiadlgkedaaDoorProg
import Derived.Below
import Derived.Deep.Draws
import Derived.Deep.AppendLies
import Derived.Maps.AppendAt
import Derived.OwnWalk
import Derived.Laws.BytesArg
import Derived.Laws.MakeOwn
import Derived.Laws.OwnMore
import Derived.Deep.OwnRows
import Derived.Tactics
import Derived.Lib.ConvBytes
import Derived.Laws.Slices
import Derived.WalkKit
import Derived.KernelRfl
import Derived.RowKit3
import Derived.Deep.LoopGhost
import Derived.Deep.QuietTactic
import Derived.BigQuiet
import Derived.WideLaws
import Derived.Deep.DeepCutAuto
import Derived.Deep.CutBlock
import Derived.Deep.RegionHeld3
import Derived.Laws.Rows
import Derived.Lib.AppendStr
import Derived.ArgAppend
import Derived.Laws.IdiomCopy
import Derived.OrdersHeld
import Derived.Laws.BitsLemmas
import Derived.RowKit
import Derived.Laws.StructEq
set_option linter.unusedVariables false
set_option linter.unusedSimpArgs false
namespace Go.Proofs.YtgdbeiadlgkedaaDoor
open Go.RowKit PFnEncode
theorem empty_list0 : (⟨#[]⟩ : ByteArray).toList = [] := by rw [ByteArray.toList_eq]
theorem clean_0 (k : Nat) (a1 : Bool) (a2 a3 a4 : Int) (a5 : ByteArray) (a6 : Int) (a7 a8 : Bool) (a9 a10 : Int) : laws_codClean.f (k + 5) 0 a1 a2 a3 a4 a5 a6 a7 a8 a9 a10 = some (decide ((a2 = 0 ∧ a3 = 0 ∧ a4 = 0 ∧ a5.toList = [] ∧ a6 = 0 ∧ a7 = false ∧ a8 = false ∧ a9 = 0 ∧ a10 = 0) ∧ True)) := by
  simp only [laws_codClean.f, laws_codOf.f, laws_codPane.f, spec_CodClean.f, spec_codBare.f, spec_codBare.j0, spec_codBare.j1, spec_codBare.j2, spec_CodClean.j0, spec_CodClean.j1, spec_CodPaneIs.f, Option.bind_some, empty_list0]
  by_cases hc : (a2 = 0 ∧ a3 = 0 ∧ a4 = 0 ∧ a5.toList = [] ∧ a6 = 0 ∧ a7 = false ∧ a8 = false ∧ a9 = 0 ∧ a10 = 0) ∧ True
  · rw [decide_eq_true hc]
    simp_all
  · rw [decide_eq_false hc]
    simp only [not_and] at hc
    simp
    (repeat' split) <;> simp_all
theorem clean_1 (k : Nat) (a1 : Bool) (a2 a3 a4 : Int) (a5 : ByteArray) (a6 : Int) (a7 a8 : Bool) (a9 a10 : Int) : laws_codClean.f (k + 5) 1 a1 a2 a3 a4 a5 a6 a7 a8 a9 a10 = some (decide ((a1 = false ∧ a3 = 0 ∧ a4 = 0 ∧ a5.toList = [] ∧ a6 = 0 ∧ a7 = false ∧ a8 = false ∧ a9 = 0 ∧ a10 = 0) ∧ (0 ≤ a2 ∧ a2 ≤ 255))) := by
  simp only [laws_codClean.f, laws_codOf.f, laws_codPane.f, spec_CodClean.f, spec_codBare.f, spec_codBare.j0, spec_codBare.j1, spec_codBare.j2, spec_CodClean.j0, spec_CodClean.j1, spec_CodPaneIs.f, Option.bind_some, empty_list0]
  by_cases hc : (a1 = false ∧ a3 = 0 ∧ a4 = 0 ∧ a5.toList = [] ∧ a6 = 0 ∧ a7 = false ∧ a8 = false ∧ a9 = 0 ∧ a10 = 0) ∧ (0 ≤ a2 ∧ a2 ≤ 255)
  · rw [decide_eq_true hc]
    simp_all
  · rw [decide_eq_false hc]
    simp only [not_and] at hc
    simp
    (repeat' split) <;> simp_all
theorem clean_2 (k : Nat) (a1 : Bool) (a2 a3 a4 : Int) (a5 : ByteArray) (a6 : Int) (a7 a8 : Bool) (a9 a10 : Int) : laws_codClean.f (k + 5) 2 a1 a2 a3 a4 a5 a6 a7 a8 a9 a10 = some (decide ((a1 = false ∧ a2 = 0 ∧ a3 = 0 ∧ a4 = 0 ∧ a6 = 0 ∧ a7 = false ∧ a8 = false ∧ a9 = 0 ∧ a10 = 0) ∧ ((a5.size : Int) ≤ 300))) := by
  simp only [laws_codClean.f, laws_codOf.f, laws_codPane.f, spec_CodClean.f, spec_codBare.f, spec_codBare.j0, spec_codBare.j1, spec_codBare.j2, spec_CodClean.j0, spec_CodClean.j1, spec_CodPaneIs.f, Option.bind_some, empty_list0]
  by_cases hc : (a1 = false ∧ a2 = 0 ∧ a3 = 0 ∧ a4 = 0 ∧ a6 = 0 ∧ a7 = false ∧ a8 = false ∧ a9 = 0 ∧ a10 = 0) ∧ ((a5.size : Int) ≤ 300)
  · rw [decide_eq_true hc]
    simp_all
  · rw [decide_eq_false hc]
    simp only [not_and] at hc
    simp
    (repeat' split) <;> simp_all
theorem clean_3 (k : Nat) (a1 : Bool) (a2 a3 a4 : Int) (a5 : ByteArray) (a6 : Int) (a7 a8 : Bool) (a9 a10 : Int) : laws_codClean.f (k + 5) 3 a1 a2 a3 a4 a5 a6 a7 a8 a9 a10 = some (decide ((a1 = false ∧ a2 = 0 ∧ a3 = 0 ∧ a5.toList = [] ∧ a6 = 0 ∧ a7 = false ∧ a8 = false ∧ a9 = 0 ∧ a10 = 0) ∧ ((Go.bits .and .u64 (a4 / 4503599627370496) 2047 = 2047) → IntKind.u64.wrap (a4 * 4096) = 0))) := by
  simp only [laws_codClean.f, laws_codOf.f, laws_codPane.f, spec_CodClean.f, spec_codBare.f, spec_codBare.j0, spec_codBare.j1, spec_codBare.j2, spec_CodClean.j0, spec_CodClean.j1, spec_CodPaneIs.f, Option.bind_some, empty_list0]
  by_cases hc : (a1 = false ∧ a2 = 0 ∧ a3 = 0 ∧ a5.toList = [] ∧ a6 = 0 ∧ a7 = false ∧ a8 = false ∧ a9 = 0 ∧ a10 = 0) ∧ ((Go.bits .and .u64 (a4 / 4503599627370496) 2047 = 2047) → IntKind.u64.wrap (a4 * 4096) = 0)
  · rw [decide_eq_true hc]
    simp_all
  · rw [decide_eq_false hc]
    simp only [not_and] at hc
    simp
    (repeat' split) <;> simp_all
theorem clean_4 (k : Nat) (a1 : Bool) (a2 a3 a4 : Int) (a5 : ByteArray) (a6 : Int) (a7 a8 : Bool) (a9 a10 : Int) : laws_codClean.f (k + 5) 4 a1 a2 a3 a4 a5 a6 a7 a8 a9 a10 = some (decide ((a1 = false ∧ a3 = 0 ∧ a4 = 0 ∧ a5.toList = [] ∧ a6 = 0 ∧ a7 = false ∧ a8 = false ∧ a9 = 0 ∧ a10 = 0) ∧ True)) := by
  simp only [laws_codClean.f, laws_codOf.f, laws_codPane.f, spec_CodClean.f, spec_codBare.f, spec_codBare.j0, spec_codBare.j1, spec_codBare.j2, spec_CodClean.j0, spec_CodClean.j1, spec_CodPaneIs.f, Option.bind_some, empty_list0]
  by_cases hc : (a1 = false ∧ a3 = 0 ∧ a4 = 0 ∧ a5.toList = [] ∧ a6 = 0 ∧ a7 = false ∧ a8 = false ∧ a9 = 0 ∧ a10 = 0) ∧ True
  · rw [decide_eq_true hc]
    simp_all
  · rw [decide_eq_false hc]
    simp only [not_and] at hc
    simp
    (repeat' split) <;> simp_all
theorem clean_5 (k : Nat) (a1 : Bool) (a2 a3 a4 : Int) (a5 : ByteArray) (a6 : Int) (a7 a8 : Bool) (a9 a10 : Int) : laws_codClean.f (k + 5) 5 a1 a2 a3 a4 a5 a6 a7 a8 a9 a10 = some (decide ((a1 = false ∧ a3 = 0 ∧ a4 = 0 ∧ a5.toList = [] ∧ a6 = 0 ∧ a7 = false ∧ a8 = false ∧ a9 = 0 ∧ a10 = 0) ∧ (wrap64 (wrap32 a2) = a2))) := by
  simp only [laws_codClean.f, laws_codOf.f, laws_codPane.f, spec_CodClean.f, spec_codBare.f, spec_codBare.j0, spec_codBare.j1, spec_codBare.j2, spec_CodClean.j0, spec_CodClean.j1, spec_CodPaneIs.f, Option.bind_some, empty_list0]
  by_cases hc : (a1 = false ∧ a3 = 0 ∧ a4 = 0 ∧ a5.toList = [] ∧ a6 = 0 ∧ a7 = false ∧ a8 = false ∧ a9 = 0 ∧ a10 = 0) ∧ (wrap64 (wrap32 a2) = a2)
  · rw [decide_eq_true hc]
    simp_all
  · rw [decide_eq_false hc]
    simp only [not_and] at hc
    simp
    (repeat' split) <;> simp_all
    exact fun h1 h3 h4 h5 h6 h7 h8 h9 h10 e => hc h1 h3 h4 h5 h6 h7 h8 h9 h10 e.symm
theorem clean_6 (k : Nat) (a1 : Bool) (a2 a3 a4 : Int) (a5 : ByteArray) (a6 : Int) (a7 a8 : Bool) (a9 a10 : Int) : laws_codClean.f (k + 5) 6 a1 a2 a3 a4 a5 a6 a7 a8 a9 a10 = some (decide ((a1 = false ∧ a2 = 0 ∧ a3 = 0 ∧ a4 = 0 ∧ a5.toList = []) ∧ (0 ≤ a6 ∧ a6 ≤ 3 ∧ (a6 = 0 → a10 = -1 ∨ (a9 = 0 ∧ a10 = 0))))) := by
  simp only [laws_codClean.f, laws_codOf.f, laws_codPane.f, spec_CodClean.f, spec_codBare.f, spec_codBare.j0, spec_codBare.j1, spec_codBare.j2, spec_CodClean.j0, spec_CodClean.j1, spec_CodPaneIs.f, Option.bind_some, empty_list0]
  by_cases hc : (a1 = false ∧ a2 = 0 ∧ a3 = 0 ∧ a4 = 0 ∧ a5.toList = []) ∧ (0 ≤ a6 ∧ a6 ≤ 3 ∧ (a6 = 0 → a10 = -1 ∨ (a9 = 0 ∧ a10 = 0)))
  · rw [decide_eq_true hc]
    by_cases h6 : a6 = 0 <;> by_cases h10 : a10 = -1 <;> by_cases h9 : a9 = 0 <;> simp_all
  · rw [decide_eq_false hc]
    simp only [not_and] at hc
    simp
    by_cases h6 : a6 = 0 <;> by_cases h10 : a10 = -1 <;> by_cases h9 : a9 = 0 <;> (repeat' split) <;> simp_all
theorem clean_7 (k : Nat) (a1 : Bool) (a2 a3 a4 : Int) (a5 : ByteArray) (a6 : Int) (a7 a8 : Bool) (a9 a10 : Int) : laws_codClean.f (k + 5) 7 a1 a2 a3 a4 a5 a6 a7 a8 a9 a10 = some (decide ((a1 = false ∧ a2 = 0 ∧ a3 = 0 ∧ a5.toList = [] ∧ a6 = 0 ∧ a7 = false ∧ a8 = false ∧ a9 = 0 ∧ a10 = 0) ∧ (a4 < 4294967296 ∧ ((Go.bits .and .u64 (a4 / 8388608) 255 = 255) → Go.bits .and .u64 a4 8388607 = 0)))) := by
  simp only [laws_codClean.f, laws_codOf.f, laws_codPane.f, spec_CodClean.f, spec_codBare.f, spec_codBare.j0, spec_codBare.j1, spec_codBare.j2, spec_CodClean.j0, spec_CodClean.j1, spec_CodPaneIs.f, Option.bind_some, empty_list0]
  by_cases hc : (a1 = false ∧ a2 = 0 ∧ a3 = 0 ∧ a5.toList = [] ∧ a6 = 0 ∧ a7 = false ∧ a8 = false ∧ a9 = 0 ∧ a10 = 0) ∧ (a4 < 4294967296 ∧ ((Go.bits .and .u64 (a4 / 8388608) 255 = 255) → Go.bits .and .u64 a4 8388607 = 0))
  · rw [decide_eq_true hc]
    simp_all
  · rw [decide_eq_false hc]
    simp only [not_and] at hc
    simp
    (repeat' split) <;> simp_all
theorem clean_8 (k : Nat) (a1 : Bool) (a2 a3 a4 : Int) (a5 : ByteArray) (a6 : Int) (a7 a8 : Bool) (a9 a10 : Int) : laws_codClean.f (k + 5) 8 a1 a2 a3 a4 a5 a6 a7 a8 a9 a10 = some (decide ((a1 = false ∧ a2 = 0 ∧ a3 = 0 ∧ a4 = 0 ∧ a6 = 0 ∧ a7 = false ∧ a8 = false ∧ a9 = 0 ∧ a10 = 0) ∧ ((a5.size : Int) ≤ 300))) := by
  simp only [laws_codClean.f, laws_codOf.f, laws_codPane.f, spec_CodClean.f, spec_codBare.f, spec_codBare.j0, spec_codBare.j1, spec_codBare.j2, spec_CodClean.j0, spec_CodClean.j1, spec_CodPaneIs.f, Option.bind_some, empty_list0]
  by_cases hc : (a1 = false ∧ a2 = 0 ∧ a3 = 0 ∧ a4 = 0 ∧ a6 = 0 ∧ a7 = false ∧ a8 = false ∧ a9 = 0 ∧ a10 = 0) ∧ ((a5.size : Int) ≤ 300)
  · rw [decide_eq_true hc]
    simp_all
  · rw [decide_eq_false hc]
    simp only [not_and] at hc
    simp
    (repeat' split) <;> simp_all
theorem clean_9 (k : Nat) (a1 : Bool) (a2 a3 a4 : Int) (a5 : ByteArray) (a6 : Int) (a7 a8 : Bool) (a9 a10 : Int) : laws_codClean.f (k + 5) 9 a1 a2 a3 a4 a5 a6 a7 a8 a9 a10 = some (decide ((a1 = false ∧ a2 = 0 ∧ a4 = 0 ∧ a5.toList = [] ∧ a6 = 0 ∧ a7 = false ∧ a8 = false ∧ a9 = 0 ∧ a10 = 0) ∧ (a3 < 4294967296))) := by
  simp only [laws_codClean.f, laws_codOf.f, laws_codPane.f, spec_CodClean.f, spec_codBare.f, spec_codBare.j0, spec_codBare.j1, spec_codBare.j2, spec_CodClean.j0, spec_CodClean.j1, spec_CodPaneIs.f, Option.bind_some, empty_list0]
  by_cases hc : (a1 = false ∧ a2 = 0 ∧ a4 = 0 ∧ a5.toList = [] ∧ a6 = 0 ∧ a7 = false ∧ a8 = false ∧ a9 = 0 ∧ a10 = 0) ∧ (a3 < 4294967296)
  · rw [decide_eq_true hc]
    simp_all
  · rw [decide_eq_false hc]
    simp only [not_and] at hc
    simp
    (repeat' split) <;> simp_all
theorem clean_10 (k : Nat) (a1 : Bool) (a2 a3 a4 : Int) (a5 : ByteArray) (a6 : Int) (a7 a8 : Bool) (a9 a10 : Int) : laws_codClean.f (k + 5) 10 a1 a2 a3 a4 a5 a6 a7 a8 a9 a10 = some (decide ((a1 = false ∧ a2 = 0 ∧ a4 = 0 ∧ a5.toList = [] ∧ a6 = 0 ∧ a7 = false ∧ a8 = false ∧ a9 = 0 ∧ a10 = 0) ∧ True)) := by
  simp only [laws_codClean.f, laws_codOf.f, laws_codPane.f, spec_CodClean.f, spec_codBare.f, spec_codBare.j0, spec_codBare.j1, spec_codBare.j2, spec_CodClean.j0, spec_CodClean.j1, spec_CodPaneIs.f, Option.bind_some, empty_list0]
  by_cases hc : (a1 = false ∧ a2 = 0 ∧ a4 = 0 ∧ a5.toList = [] ∧ a6 = 0 ∧ a7 = false ∧ a8 = false ∧ a9 = 0 ∧ a10 = 0) ∧ True
  · rw [decide_eq_true hc]
    simp_all
  · rw [decide_eq_false hc]
    simp only [not_and] at hc
    simp
    (repeat' split) <;> simp_all
theorem clean_11 (k : Nat) (a1 : Bool) (a2 a3 a4 : Int) (a5 : ByteArray) (a6 : Int) (a7 a8 : Bool) (a9 a10 : Int) : laws_codClean.f (k + 5) 11 a1 a2 a3 a4 a5 a6 a7 a8 a9 a10 = some (decide ((a1 = false ∧ a3 = 0 ∧ a4 = 0 ∧ a5.toList = [] ∧ a6 = 0 ∧ a7 = false ∧ a8 = false ∧ a9 = 0 ∧ a10 = 0) ∧ True)) := by
  simp only [laws_codClean.f, laws_codOf.f, laws_codPane.f, spec_CodClean.f, spec_codBare.f, spec_codBare.j0, spec_codBare.j1, spec_codBare.j2, spec_CodClean.j0, spec_CodClean.j1, spec_CodPaneIs.f, Option.bind_some, empty_list0]
  by_cases hc : (a1 = false ∧ a3 = 0 ∧ a4 = 0 ∧ a5.toList = [] ∧ a6 = 0 ∧ a7 = false ∧ a8 = false ∧ a9 = 0 ∧ a10 = 0) ∧ True
  · rw [decide_eq_true hc]
    simp_all
  · rw [decide_eq_false hc]
    simp only [not_and] at hc
    simp
    (repeat' split) <;> simp_all
theorem clean_12 (k : Nat) (a1 : Bool) (a2 a3 a4 : Int) (a5 : ByteArray) (a6 : Int) (a7 a8 : Bool) (a9 a10 : Int) : laws_codClean.f (k + 5) 12 a1 a2 a3 a4 a5 a6 a7 a8 a9 a10 = some (decide ((a1 = false ∧ a2 = 0 ∧ a4 = 0 ∧ a5.toList = [] ∧ a6 = 0 ∧ a7 = false ∧ a8 = false ∧ a9 = 0 ∧ a10 = 0) ∧ True)) := by
  simp only [laws_codClean.f, laws_codOf.f, laws_codPane.f, spec_CodClean.f, spec_codBare.f, spec_codBare.j0, spec_codBare.j1, spec_codBare.j2, spec_CodClean.j0, spec_CodClean.j1, spec_CodPaneIs.f, Option.bind_some, empty_list0]
  by_cases hc : (a1 = false ∧ a2 = 0 ∧ a4 = 0 ∧ a5.toList = [] ∧ a6 = 0 ∧ a7 = false ∧ a8 = false ∧ a9 = 0 ∧ a10 = 0) ∧ True
  · rw [decide_eq_true hc]
    simp_all
  · rw [decide_eq_false hc]
    simp only [not_and] at hc
    simp
    (repeat' split) <;> simp_all
theorem clean_out (k : Nat) (a0 : Int) (a1 : Bool) (a2 a3 a4 : Int) (a5 : ByteArray) (a6 : Int) (a7 a8 : Bool) (a9 a10 : Int) (h : a0 < 0 ∨ 12 < a0) : laws_codClean.f (k + 5) a0 a1 a2 a3 a4 a5 a6 a7 a8 a9 a10 = some false := by
  rcases h with h | h
  · simp [laws_codClean.f, laws_codOf.f, laws_codPane.f, spec_CodClean.f, spec_codBare.f, spec_codBare.j0, spec_codBare.j1, spec_codBare.j2, spec_CodClean.j0, spec_CodClean.j1, spec_CodPaneIs.f, h]
  · have h2 : ¬ a0 < 0 := by omega
    simp [laws_codClean.f, laws_codOf.f, laws_codPane.f, spec_CodClean.f, spec_codBare.f, spec_codBare.j0, spec_codBare.j1, spec_codBare.j2, spec_CodClean.j0, spec_CodClean.j1, spec_CodPaneIs.f, h, h2]
end Go.Proofs.YtgdbeiadlgkedaaDoor
set_option linter.unusedVariables false
set_option linter.unusedSimpArgs false
namespace Go.Proofs.YtgdbeiadlgkedaaDoor
open Go.RowKit Go.Proofs.YtgdbeiadlgkedaaDoorW.PrintWords Go.Proofs.YtgdbeiadlgkedaaDoorW.PrintLast Go.Proofs.YtgdbeiadlgkedaaDoorW.PrintMore
def BR (b g : Nat) (l : List UInt8) (w : World) : Prop :=
  ∃ lr cur, w.heap[b]? = some (.cells #[.slice (some ⟨g, 0, none⟩) l.length 64, .int .i64 0, .int .i8 lr] 129 (0, 0)) ∧ w.heap[g]? = some (.cells cur 5 (0, 0)) ∧ cur.size = 64 ∧ cur.toList.take l.length = Lib.byteCells l ∧ g ≠ b
def Kp (b g : Nat) (w w' : World) : Prop := w'.os = w.os ∧ w'.tape = w.tape ∧ w'.output = w.output ∧ w.heap.size ≤ w'.heap.size ∧ ∀ k, k < w.heap.size → k ≠ b → k ≠ g → w'.heap[k]? = w.heap[k]?
theorem Kp.trans {b g : Nat} {w w1 w2 : World} (h : Kp b g w w1) (k : Kp b g w1 w2) : Kp b g w w2 :=
  ⟨k.1.trans h.1, k.2.1.trans h.2.1, k.2.2.1.trans h.2.2.1, Nat.le_trans h.2.2.2.1 k.2.2.2.1, fun q hq hb hg => (k.2.2.2.2 q (Nat.lt_of_lt_of_le hq h.2.2.2.1) hb hg).trans (h.2.2.2.2 q hq hb hg)⟩
theorem Kp.at {b g : Nat} {w w' : World} (h : Kp b g w w') {a : Addr} {l : List UInt8} (hs : At w a l) (hlt : a.block < w.heap.size) (h1 : a.block ≠ b) (h2 : a.block ≠ g) : At w' a l := hs.kept (h.2.2.2.2 a.block hlt h1 h2)
end Go.Proofs.YtgdbeiadlgkedaaDoor
set_option linter.unusedVariables false
set_option linter.unusedSimpArgs false
namespace Go.Proofs.YtgdbeiadlgkedaaDoor
open Go.RowKit Go.Proofs.YtgdbeiadlgkedaaDoorW.PrintWords Go.Proofs.YtgdbeiadlgkedaaDoorW.PrintLast Go.Proofs.YtgdbeiadlgkedaaDoorW.PrintMore
theorem Kp.set {b g : Nat} {w w1 : World} (h : Kp b g w w1) (j : Nat) (u : Value) : Kp b g w (w1.setCell ⟨b, j, none⟩ u) :=
  ⟨h.1, h.2.1, h.2.2.1, by rw [World.size_setCell]; exact h.2.2.2.1, fun k hk h1 h2 => (Below.heap_setCell _ _ _ _ h1).trans (h.2.2.2.2 k hk h1 h2)⟩
theorem Kp.refl (b g : Nat) (w : World) : Kp b g w w := ⟨rfl, rfl, rfl, Nat.le_refl _, fun _ _ _ _ => rfl⟩
theorem Kp.row {b g : Nat} {w w1 : World} (h : Kp b g w w1) (cs : Array Value) : Kp b g w (w1.setRow g cs) :=
  ⟨h.1, h.2.1, h.2.2.1, by simp [World.setRow]; exact h.2.2.2.1, fun k hk h1 h2 => (setRow_other _ _ _ _ h2).trans (h.2.2.2.2 k hk h1 h2)⟩
end Go.Proofs.YtgdbeiadlgkedaaDoor
set_option linter.unusedVariables false
set_option linter.unusedSimpArgs false
namespace Go.Proofs.YtgdbeiadlgkedaaDoor
open Go.RowKit Go.Proofs.YtgdbeiadlgkedaaDoorW.PrintWords Go.Proofs.YtgdbeiadlgkedaaDoorW.PrintLast Go.Proofs.YtgdbeiadlgkedaaDoorW.PrintMore
theorem Kp.below {b g : Nat} {w w1 : World} (h : Below w.heap.size w w1) : Kp b g w w1 := ⟨h.os, h.tape, h.output, h.size, fun k hk _ _ => h.block k hk⟩
theorem BR.below {b g : Nat} {l : List UInt8} {w w1 : World} (h : BR b g l w) (hb : Below w.heap.size w w1) : BR b g l w1 := by
  obtain ⟨lr, cur, h1, h2, h3, h4, h5⟩ := h
  exact ⟨lr, cur, blk_below h1 hb, blk_below h2 hb, h3, h4, h5⟩
end Go.Proofs.YtgdbeiadlgkedaaDoor
namespace Go.Proofs.YtgdbeiadlgkedaaDoor.PFnPaneEarly
open Go.RowKit Go.Proofs.YtgdbeiadlgkedaaDoorW.PrintWords Go.Proofs.YtgdbeiadlgkedaaDoorW.PrintLast Go.Proofs.YtgdbeiadlgkedaaDoorW.PrintMore
attribute [local go_sem] max2_int min2_int max_two min_two max_three min_three max_four min_four
set_option linter.unusedVariables false
set_option linter.unusedSimpArgs false
def errW : Option Int → Value
  | none => .nilIface
  | some c => .iface 0 (.int .i64 c)
theorem errW_none : errW none = .nilIface := rfl
theorem errW_some (c : Int) : errW (some c) = .iface 0 (.int .i64 c) := rfl
end Go.Proofs.YtgdbeiadlgkedaaDoor.PFnPaneEarly
