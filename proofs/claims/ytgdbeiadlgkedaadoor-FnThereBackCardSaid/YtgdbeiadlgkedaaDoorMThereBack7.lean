/- Contracts and plain laws, several texts in one. -/
import Derived.Test.YtgdbeiadlgkedaaDoorMThereBack1
import Derived.Test.YtgdbeiadlgkedaaDoorMThereBack2
import Derived.Test.YtgdbeiadlgkedaaDoorMThereBack3
import Derived.Test.YtgdbeiadlgkedaaDoorMThereBack6
import Derived.Test.YtgdbeiadlgkedaaDoorMThereBack9
import Derived.Test.YtgdbeiadlgkedaaDoorMThereBack10
import Derived.Laws.CopyRow
import Derived.Test.YtgdbeiadlgkedaaDoorProg
import Derived.Below
import Derived.Deep.Draws
import Derived.Deep.AppendLies
import Derived.Maps.AppendAt
import Derived.OwnWalk
import Derived.Laws.BytesArg
import Derived.Laws.MakeOwn
import Derived.Laws.OwnMore
import Derived.Deep.OwnRows
import Derived.Tactics
import Derived.Lib.ConvBytes
import Derived.Laws.Slices
import Derived.WalkKit
import Derived.KernelRfl
import Derived.RowKit3
import Derived.Deep.LoopGhost
import Derived.Deep.QuietTactic
import Derived.BigQuiet
import Derived.WideLaws
import Derived.Deep.DeepCutAuto
import Derived.Deep.CutBlock
import Derived.Deep.RegionHeld3
import Derived.Laws.Rows
import Derived.Lib.AppendStr
import Derived.ArgAppend
import Derived.Laws.IdiomCopy
import Derived.OrdersHeld
import Derived.Laws.BitsLemmas
import Derived.RowKit
import Derived.Lib.Varint
set_option linter.unusedVariables false
set_option linter.unusedSimpArgs false
namespace Go.Proofs.YtgdbeiadlgkedaaDoor
open Go.RowKit PFnEncode
theorem empty_list0 : (⟨#[]⟩ : ByteArray).toList = [] := by rw [ByteArray.toList_eq]
theorem clean_0 (k : Nat) (a1 : Bool) (a2 a3 a4 : Int) (a5 : ByteArray) (a6 : Int) (a7 a8 : Bool) (a9 a10 : Int) : laws_codClean.f (k + 5) 0 a1 a2 a3 a4 a5 a6 a7 a8 a9 a10 = some (decide ((a2 = 0 ∧ a3 = 0 ∧ a4 = 0 ∧ a5.toList = [] ∧ a6 = 0 ∧ a7 = false ∧ a8 = false ∧ a9 = 0 ∧ a10 = 0) ∧ True)) := by
  simp only [laws_codClean.f, laws_codOf.f, laws_codPane.f, spec_CodClean.f, spec_codBare.f, spec_codBare.j0, spec_codBare.j1, spec_codBare.j2, spec_CodClean.j0, spec_CodClean.j1, spec_CodPaneIs.f, Option.bind_some, empty_list0]
  by_cases hc : (a2 = 0 ∧ a3 = 0 ∧ a4 = 0 ∧ a5.toList = [] ∧ a6 = 0 ∧ a7 = false ∧ a8 = false ∧ a9 = 0 ∧ a10 = 0) ∧ True
  · rw [decide_eq_true hc]
    simp_all
  · rw [decide_eq_false hc]
    simp only [not_and] at hc
    simp
    (repeat' split) <;> simp_all
theorem clean_1 (k : Nat) (a1 : Bool) (a2 a3 a4 : Int) (a5 : ByteArray) (a6 : Int) (a7 a8 : Bool) (a9 a10 : Int) : laws_codClean.f (k + 5) 1 a1 a2 a3 a4 a5 a6 a7 a8 a9 a10 = some (decide ((a1 = false ∧ a3 = 0 ∧ a4 = 0 ∧ a5.toList = [] ∧ a6 = 0 ∧ a7 = false ∧ a8 = false ∧ a9 = 0 ∧ a10 = 0) ∧ (0 ≤ a2 ∧ a2 ≤ 255))) := by
  simp only [laws_codClean.f, laws_codOf.f, laws_codPane.f, spec_CodClean.f, spec_codBare.f, spec_codBare.j0, spec_codBare.j1, spec_codBare.j2, spec_CodClean.j0, spec_CodClean.j1, spec_CodPaneIs.f, Option.bind_some, empty_list0]
  by_cases hc : (a1 = false ∧ a3 = 0 ∧ a4 = 0 ∧ a5.toList = [] ∧ a6 = 0 ∧ a7 = false ∧ a8 = false ∧ a9 = 0 ∧ a10 = 0) ∧ (0 ≤ a2 ∧ a2 ≤ 255)
  · rw [decide_eq_true hc]
    simp_all
  · rw [decide_eq_false hc]
    simp only [not_and] at hc
    simp
    (repeat' split) <;> simp_all
theorem clean_2 (k : Nat) (a1 : Bool) (a2 a3 a4 : Int) (a5 : ByteArray) (a6 : Int) (a7 a8 : Bool) (a9 a10 : Int) : laws_codClean.f (k + 5) 2 a1 a2 a3 a4 a5 a6 a7 a8 a9 a10 = some (decide ((a1 = false ∧ a2 = 0 ∧ a3 = 0 ∧ a4 = 0 ∧ a6 = 0 ∧ a7 = false ∧ a8 = false ∧ a9 = 0 ∧ a10 = 0) ∧ ((a5.size : Int) ≤ 300))) := by
  simp only [laws_codClean.f, laws_codOf.f, laws_codPane.f, spec_CodClean.f, spec_codBare.f, spec_codBare.j0, spec_codBare.j1, spec_codBare.j2, spec_CodClean.j0, spec_CodClean.j1, spec_CodPaneIs.f, Option.bind_some, empty_list0]
  by_cases hc : (a1 = false ∧ a2 = 0 ∧ a3 = 0 ∧ a4 = 0 ∧ a6 = 0 ∧ a7 = false ∧ a8 = false ∧ a9 = 0 ∧ a10 = 0) ∧ ((a5.size : Int) ≤ 300)
  · rw [decide_eq_true hc]
    simp_all
  · rw [decide_eq_false hc]
    simp only [not_and] at hc
    simp
    (repeat' split) <;> simp_all
theorem clean_3 (k : Nat) (a1 : Bool) (a2 a3 a4 : Int) (a5 : ByteArray) (a6 : Int) (a7 a8 : Bool) (a9 a10 : Int) : laws_codClean.f (k + 5) 3 a1 a2 a3 a4 a5 a6 a7 a8 a9 a10 = some (decide ((a1 = false ∧ a2 = 0 ∧ a3 = 0 ∧ a5.toList = [] ∧ a6 = 0 ∧ a7 = false ∧ a8 = false ∧ a9 = 0 ∧ a10 = 0) ∧ ((Go.bits .and .u64 (a4 / 4503599627370496) 2047 = 2047) → IntKind.u64.wrap (a4 * 4096) = 0))) := by
  simp only [laws_codClean.f, laws_codOf.f, laws_codPane.f, spec_CodClean.f, spec_codBare.f, spec_codBare.j0, spec_codBare.j1, spec_codBare.j2, spec_CodClean.j0, spec_CodClean.j1, spec_CodPaneIs.f, Option.bind_some, empty_list0]
  by_cases hc : (a1 = false ∧ a2 = 0 ∧ a3 = 0 ∧ a5.toList = [] ∧ a6 = 0 ∧ a7 = false ∧ a8 = false ∧ a9 = 0 ∧ a10 = 0) ∧ ((Go.bits .and .u64 (a4 / 4503599627370496) 2047 = 2047) → IntKind.u64.wrap (a4 * 4096) = 0)
  · rw [decide_eq_true hc]
    simp_all
  · rw [decide_eq_false hc]
    simp only [not_and] at hc
    simp
    (repeat' split) <;> simp_all
theorem clean_4 (k : Nat) (a1 : Bool) (a2 a3 a4 : Int) (a5 : ByteArray) (a6 : Int) (a7 a8 : Bool) (a9 a10 : Int) : laws_codClean.f (k + 5) 4 a1 a2 a3 a4 a5 a6 a7 a8 a9 a10 = some (decide ((a1 = false ∧ a3 = 0 ∧ a4 = 0 ∧ a5.toList = [] ∧ a6 = 0 ∧ a7 = false ∧ a8 = false ∧ a9 = 0 ∧ a10 = 0) ∧ True)) := by
  simp only [laws_codClean.f, laws_codOf.f, laws_codPane.f, spec_CodClean.f, spec_codBare.f, spec_codBare.j0, spec_codBare.j1, spec_codBare.j2, spec_CodClean.j0, spec_CodClean.j1, spec_CodPaneIs.f, Option.bind_some, empty_list0]
  by_cases hc : (a1 = false ∧ a3 = 0 ∧ a4 = 0 ∧ a5.toList = [] ∧ a6 = 0 ∧ a7 = false ∧ a8 = false ∧ a9 = 0 ∧ a10 = 0) ∧ True
  · rw [decide_eq_true hc]
    simp_all
  · rw [decide_eq_false hc]
    simp only [not_and] at hc
    simp
    (repeat' split) <;> simp_all
theorem clean_5 (k : Nat) (a1 : Bool) (a2 a3 a4 : Int) (a5 : ByteArray) (a6 : Int) (a7 a8 : Bool) (a9 a10 : Int) : laws_codClean.f (k + 5) 5 a1 a2 a3 a4 a5 a6 a7 a8 a9 a10 = some (decide ((a1 = false ∧ a3 = 0 ∧ a4 = 0 ∧ a5.toList = [] ∧ a6 = 0 ∧ a7 = false ∧ a8 = false ∧ a9 = 0 ∧ a10 = 0) ∧ (wrap64 (wrap32 a2) = a2))) := by
  simp only [laws_codClean.f, laws_codOf.f, laws_codPane.f, spec_CodClean.f, spec_codBare.f, spec_codBare.j0, spec_codBare.j1, spec_codBare.j2, spec_CodClean.j0, spec_CodClean.j1, spec_CodPaneIs.f, Option.bind_some, empty_list0]
  by_cases hc : (a1 = false ∧ a3 = 0 ∧ a4 = 0 ∧ a5.toList = [] ∧ a6 = 0 ∧ a7 = false ∧ a8 = false ∧ a9 = 0 ∧ a10 = 0) ∧ (wrap64 (wrap32 a2) = a2)
  · rw [decide_eq_true hc]
    simp_all
  · rw [decide_eq_false hc]
    simp only [not_and] at hc
    simp
    (repeat' split) <;> simp_all
    exact fun h1 h3 h4 h5 h6 h7 h8 h9 h10 e => hc h1 h3 h4 h5 h6 h7 h8 h9 h10 e.symm
theorem clean_6 (k : Nat) (a1 : Bool) (a2 a3 a4 : Int) (a5 : ByteArray) (a6 : Int) (a7 a8 : Bool) (a9 a10 : Int) : laws_codClean.f (k + 5) 6 a1 a2 a3 a4 a5 a6 a7 a8 a9 a10 = some (decide ((a1 = false ∧ a2 = 0 ∧ a3 = 0 ∧ a4 = 0 ∧ a5.toList = []) ∧ (0 ≤ a6 ∧ a6 ≤ 3 ∧ (a6 = 0 → a10 = -1 ∨ (a9 = 0 ∧ a10 = 0))))) := by
  simp only [laws_codClean.f, laws_codOf.f, laws_codPane.f, spec_CodClean.f, spec_codBare.f, spec_codBare.j0, spec_codBare.j1, spec_codBare.j2, spec_CodClean.j0, spec_CodClean.j1, spec_CodPaneIs.f, Option.bind_some, empty_list0]
  by_cases hc : (a1 = false ∧ a2 = 0 ∧ a3 = 0 ∧ a4 = 0 ∧ a5.toList = []) ∧ (0 ≤ a6 ∧ a6 ≤ 3 ∧ (a6 = 0 → a10 = -1 ∨ (a9 = 0 ∧ a10 = 0)))
  · rw [decide_eq_true hc]
    by_cases h6 : a6 = 0 <;> by_cases h10 : a10 = -1 <;> by_cases h9 : a9 = 0 <;> simp_all
  · rw [decide_eq_false hc]
    simp only [not_and] at hc
    simp
    by_cases h6 : a6 = 0 <;> by_cases h10 : a10 = -1 <;> by_cases h9 : a9 = 0 <;> (repeat' split) <;> simp_all
theorem clean_7 (k : Nat) (a1 : Bool) (a2 a3 a4 : Int) (a5 : ByteArray) (a6 : Int) (a7 a8 : Bool) (a9 a10 : Int) : laws_codClean.f (k + 5) 7 a1 a2 a3 a4 a5 a6 a7 a8 a9 a10 = some (decide ((a1 = false ∧ a2 = 0 ∧ a3 = 0 ∧ a5.toList = [] ∧ a6 = 0 ∧ a7 = false ∧ a8 = false ∧ a9 = 0 ∧ a10 = 0) ∧ (a4 < 4294967296 ∧ ((Go.bits .and .u64 (a4 / 8388608) 255 = 255) → Go.bits .and .u64 a4 8388607 = 0)))) := by
  simp only [laws_codClean.f, laws_codOf.f, laws_codPane.f, spec_CodClean.f, spec_codBare.f, spec_codBare.j0, spec_codBare.j1, spec_codBare.j2, spec_CodClean.j0, spec_CodClean.j1, spec_CodPaneIs.f, Option.bind_some, empty_list0]
  by_cases hc : (a1 = false ∧ a2 = 0 ∧ a3 = 0 ∧ a5.toList = [] ∧ a6 = 0 ∧ a7 = false ∧ a8 = false ∧ a9 = 0 ∧ a10 = 0) ∧ (a4 < 4294967296 ∧ ((Go.bits .and .u64 (a4 / 8388608) 255 = 255) → Go.bits .and .u64 a4 8388607 = 0))
  · rw [decide_eq_true hc]
    simp_all
  · rw [decide_eq_false hc]
    simp only [not_and] at hc
    simp
    (repeat' split) <;> simp_all
theorem clean_8 (k : Nat) (a1 : Bool) (a2 a3 a4 : Int) (a5 : ByteArray) (a6 : Int) (a7 a8 : Bool) (a9 a10 : Int) : laws_codClean.f (k + 5) 8 a1 a2 a3 a4 a5 a6 a7 a8 a9 a10 = some (decide ((a1 = false ∧ a2 = 0 ∧ a3 = 0 ∧ a4 = 0 ∧ a6 = 0 ∧ a7 = false ∧ a8 = false ∧ a9 = 0 ∧ a10 = 0) ∧ ((a5.size : Int) ≤ 300))) := by
  simp only [laws_codClean.f, laws_codOf.f, laws_codPane.f, spec_CodClean.f, spec_codBare.f, spec_codBare.j0, spec_codBare.j1, spec_codBare.j2, spec_CodClean.j0, spec_CodClean.j1, spec_CodPaneIs.f, Option.bind_some, empty_list0]
  by_cases hc : (a1 = false ∧ a2 = 0 ∧ a3 = 0 ∧ a4 = 0 ∧ a6 = 0 ∧ a7 = false ∧ a8 = false ∧ a9 = 0 ∧ a10 = 0) ∧ ((a5.size : Int) ≤ 300)
  · rw [decide_eq_true hc]
    simp_all
  · rw [decide_eq_false hc]
    simp only [not_and] at hc
    simp
    (repeat' split) <;> simp_all
theorem clean_9 (k : Nat) (a1 : Bool) (a2 a3 a4 : Int) (a5 : ByteArray) (a6 : Int) (a7 a8 : Bool) (a9 a10 : Int) : laws_codClean.f (k + 5) 9 a1 a2 a3 a4 a5 a6 a7 a8 a9 a10 = some (decide ((a1 = false ∧ a2 = 0 ∧ a4 = 0 ∧ a5.toList = [] ∧ a6 = 0 ∧ a7 = false ∧ a8 = false ∧ a9 = 0 ∧ a10 = 0) ∧ (a3 < 4294967296))) := by
  simp only [laws_codClean.f, laws_codOf.f, laws_codPane.f, spec_CodClean.f, spec_codBare.f, spec_codBare.j0, spec_codBare.j1, spec_codBare.j2, spec_CodClean.j0, spec_CodClean.j1, spec_CodPaneIs.f, Option.bind_some, empty_list0]
  by_cases hc : (a1 = false ∧ a2 = 0 ∧ a4 = 0 ∧ a5.toList = [] ∧ a6 = 0 ∧ a7 = false ∧ a8 = false ∧ a9 = 0 ∧ a10 = 0) ∧ (a3 < 4294967296)
  · rw [decide_eq_true hc]
    simp_all
  · rw [decide_eq_false hc]
    simp only [not_and] at hc
    simp
    (repeat' split) <;> simp_all
theorem clean_10 (k : Nat) (a1 : Bool) (a2 a3 a4 : Int) (a5 : ByteArray) (a6 : Int) (a7 a8 : Bool) (a9 a10 : Int) : laws_codClean.f (k + 5) 10 a1 a2 a3 a4 a5 a6 a7 a8 a9 a10 = some (decide ((a1 = false ∧ a2 = 0 ∧ a4 = 0 ∧ a5.toList = [] ∧ a6 = 0 ∧ a7 = false ∧ a8 = false ∧ a9 = 0 ∧ a10 = 0) ∧ True)) := by
  simp only [laws_codClean.f, laws_codOf.f, laws_codPane.f, spec_CodClean.f, spec_codBare.f, spec_codBare.j0, spec_codBare.j1, spec_codBare.j2, spec_CodClean.j0, spec_CodClean.j1, spec_CodPaneIs.f, Option.bind_some, empty_list0]
  by_cases hc : (a1 = false ∧ a2 = 0 ∧ a4 = 0 ∧ a5.toList = [] ∧ a6 = 0 ∧ a7 = false ∧ a8 = false ∧ a9 = 0 ∧ a10 = 0) ∧ True
  · rw [decide_eq_true hc]
    simp_all
  · rw [decide_eq_false hc]
    simp only [not_and] at hc
    simp
    (repeat' split) <;> simp_all
theorem clean_11 (k : Nat) (a1 : Bool) (a2 a3 a4 : Int) (a5 : ByteArray) (a6 : Int) (a7 a8 : Bool) (a9 a10 : Int) : laws_codClean.f (k + 5) 11 a1 a2 a3 a4 a5 a6 a7 a8 a9 a10 = some (decide ((a1 = false ∧ a3 = 0 ∧ a4 = 0 ∧ a5.toList = [] ∧ a6 = 0 ∧ a7 = false ∧ a8 = false ∧ a9 = 0 ∧ a10 = 0) ∧ True)) := by
  simp only [laws_codClean.f, laws_codOf.f, laws_codPane.f, spec_CodClean.f, spec_codBare.f, spec_codBare.j0, spec_codBare.j1, spec_codBare.j2, spec_CodClean.j0, spec_CodClean.j1, spec_CodPaneIs.f, Option.bind_some, empty_list0]
  by_cases hc : (a1 = false ∧ a3 = 0 ∧ a4 = 0 ∧ a5.toList = [] ∧ a6 = 0 ∧ a7 = false ∧ a8 = false ∧ a9 = 0 ∧ a10 = 0) ∧ True
  · rw [decide_eq_true hc]
    simp_all
  · rw [decide_eq_false hc]
    simp only [not_and] at hc
    simp
    (repeat' split) <;> simp_all
theorem clean_12 (k : Nat) (a1 : Bool) (a2 a3 a4 : Int) (a5 : ByteArray) (a6 : Int) (a7 a8 : Bool) (a9 a10 : Int) : laws_codClean.f (k + 5) 12 a1 a2 a3 a4 a5 a6 a7 a8 a9 a10 = some (decide ((a1 = false ∧ a2 = 0 ∧ a4 = 0 ∧ a5.toList = [] ∧ a6 = 0 ∧ a7 = false ∧ a8 = false ∧ a9 = 0 ∧ a10 = 0) ∧ True)) := by
  simp only [laws_codClean.f, laws_codOf.f, laws_codPane.f, spec_CodClean.f, spec_codBare.f, spec_codBare.j0, spec_codBare.j1, spec_codBare.j2, spec_CodClean.j0, spec_CodClean.j1, spec_CodPaneIs.f, Option.bind_some, empty_list0]
  by_cases hc : (a1 = false ∧ a2 = 0 ∧ a4 = 0 ∧ a5.toList = [] ∧ a6 = 0 ∧ a7 = false ∧ a8 = false ∧ a9 = 0 ∧ a10 = 0) ∧ True
  · rw [decide_eq_true hc]
    simp_all
  · rw [decide_eq_false hc]
    simp only [not_and] at hc
    simp
    (repeat' split) <;> simp_all
theorem clean_out (k : Nat) (a0 : Int) (a1 : Bool) (a2 a3 a4 : Int) (a5 : ByteArray) (a6 : Int) (a7 a8 : Bool) (a9 a10 : Int) (h : a0 < 0 ∨ 12 < a0) : laws_codClean.f (k + 5) a0 a1 a2 a3 a4 a5 a6 a7 a8 a9 a10 = some false := by
  rcases h with h | h
  · simp [laws_codClean.f, laws_codOf.f, laws_codPane.f, spec_CodClean.f, spec_codBare.f, spec_codBare.j0, spec_codBare.j1, spec_codBare.j2, spec_CodClean.j0, spec_CodClean.j1, spec_CodPaneIs.f, h]
  · have h2 : ¬ a0 < 0 := by omega
    simp [laws_codClean.f, laws_codOf.f, laws_codPane.f, spec_CodClean.f, spec_codBare.f, spec_codBare.j0, spec_codBare.j1, spec_codBare.j2, spec_CodClean.j0, spec_CodClean.j1, spec_CodPaneIs.f, h, h2]
end Go.Proofs.YtgdbeiadlgkedaaDoor
set_option linter.unusedVariables false
set_option linter.unusedSimpArgs false
namespace Go.Proofs.YtgdbeiadlgkedaaDoor
open Go.RowKit Go.Proofs.YtgdbeiadlgkedaaDoorW.PrintWords Go.Proofs.YtgdbeiadlgkedaaDoorW.PrintLast Go.Proofs.YtgdbeiadlgkedaaDoorW.PrintMore
def BR (b g : Nat) (l : List UInt8) (w : World) : Prop :=
  ∃ lr cur, w.heap[b]? = some (.cells #[.slice (some ⟨g, 0, none⟩) l.length 64, .int .i64 0, .int .i8 lr] 129 (0, 0)) ∧ w.heap[g]? = some (.cells cur 5 (0, 0)) ∧ cur.size = 64 ∧ cur.toList.take l.length = Lib.byteCells l ∧ g ≠ b
def Kp (b g : Nat) (w w' : World) : Prop := w'.os = w.os ∧ w'.tape = w.tape ∧ w'.output = w.output ∧ w.heap.size ≤ w'.heap.size ∧ ∀ k, k < w.heap.size → k ≠ b → k ≠ g → w'.heap[k]? = w.heap[k]?
theorem Kp.trans {b g : Nat} {w w1 w2 : World} (h : Kp b g w w1) (k : Kp b g w1 w2) : Kp b g w w2 :=
  ⟨k.1.trans h.1, k.2.1.trans h.2.1, k.2.2.1.trans h.2.2.1, Nat.le_trans h.2.2.2.1 k.2.2.2.1, fun q hq hb hg => (k.2.2.2.2 q (Nat.lt_of_lt_of_le hq h.2.2.2.1) hb hg).trans (h.2.2.2.2 q hq hb hg)⟩
theorem Kp.at {b g : Nat} {w w' : World} (h : Kp b g w w') {a : Addr} {l : List UInt8} (hs : At w a l) (hlt : a.block < w.heap.size) (h1 : a.block ≠ b) (h2 : a.block ≠ g) : At w' a l := hs.kept (h.2.2.2.2 a.block hlt h1 h2)
end Go.Proofs.YtgdbeiadlgkedaaDoor
set_option linter.unusedVariables false
set_option linter.unusedSimpArgs false
namespace Go.Proofs.YtgdbeiadlgkedaaDoor
open Go.RowKit Go.Proofs.YtgdbeiadlgkedaaDoorW.PrintWords Go.Proofs.YtgdbeiadlgkedaaDoorW.PrintLast Go.Proofs.YtgdbeiadlgkedaaDoorW.PrintMore
def mk64 : Obj := .cells (madeCells #[.int .u8 0] (64 * 1)) 5
theorem mk64_run (n : Nat) (hn : n ≤ 64) : ∀ W : World, (Instr.makeSlice 29 (.int .i64 (n : Int)) (.int .i64 64)).run Tryd.prog W = .ok (.slice (some ⟨W.heap.size, 0, none⟩) n 64) (W.alloc mk64) := by
  intro W
  have hm : (Tryd.prog.info? 5).map (fun i => (i.zero, i.size, i.bytes)) = some (some (.int .u8 0), 1, 1) := by kernel_rfl
  obtain ⟨i, hi, he⟩ := Option.map_eq_some_iff.1 hm
  simp only [Prod.mk.injEq] at he
  obtain ⟨hz, hs, hb⟩ := he
  have h := run_makeSlice (P := Tryd.prog) W 29 5 i _ Tryd.underlying29 hi hz .i64 .i64 (n : Int) (64 : Int) (by omega) (by omega) (by rw [hs]; simp) (by rw [hb]; simp) (by omega)
  rw [hs, show (Value.int .u8 0).cells = #[.int .u8 0] from rfl] at h
  simpa [mk64] using h
theorem mk64_size : (madeCells #[Value.int .u8 0] (64 * 1)).size = 64 := by rw [size_madeCells]
set_option maxHeartbeats 3200000 in
set_option maxRecDepth 100000 in
theorem grow_nil (b n : Nat) (lr : Int) (w : World) (hb : w.heap[b]? = some (.cells #[.slice none 0 0, .int .i64 0, .int .i8 lr] 129 (0, 0))) (hn1 : 1 ≤ n) (hn : n ≤ 64) :
    Calls Tryd.prog 135 #[.pointer (some ⟨b, 0, none⟩), .int .i64 n] w fun e w' => e = .returned (.int .i64 0) ∧ ∃ g cur, w.heap.size ≤ g ∧ w'.heap[b]? = some (.cells #[.slice (some ⟨g, 0, none⟩) n 64, .int .i64 0, .int .i8 lr] 129 (0, 0)) ∧ w'.heap[g]? = some (.cells cur 5 (0, 0)) ∧ cur.size = 64 ∧ Kp b g w w' := by
  have hmk := mk64_run n hn
  have hnil : ∀ W, (binOp .eql 29 (.slice none 0 0) (.slice none 0 0)).run Tryd.prog W = .ok (.bool true) W := fun W => Lib.run_eql_slice_nil_nil W _ _ Tryd.underlying29
  have HL := Lib.hid (show Calls Tryd.prog 136 #[.pointer (some ⟨b, 0, none⟩)] w fun e w' => e = .returned (.int .i64 0) ∧ ∃ k, w' = w.drewN k from Tryd.Buffer_Len b b [] w ⟨Nat.le_refl _, .slice none 0 0, lr, hb, World.ownsRow_nil _ _ _ _, by simp [Value.ownBlock]⟩)
  have H0 := Lib.hid hb
  have q1 : (n : Int) ≤ 64 := by omega
  have HN := Lib.hid (And.intro hn1 hn)
  clear hb hn hn1
  go_enter Tryd.func135, Tryd.ntmps135
  go_wp2_with (first
    | (go_at_call 136; refine HL.out.mono ?_; rintro e_ w1 ⟨rfl, k, hw1⟩; have HB1 := Lib.hid (show w1.heap[b]? = some (.cells #[.slice none 0 0, .int .i64 0, .int .i8 lr] 129 (0, 0)) by rw [hw1]; exact H0.out); have x0 := (blk_cell HB1.out 0).trans (rfl : _ = some (Value.slice none 0 0)); have x1 := (blk_cell HB1.out 1).trans (rfl : _ = some (Value.int .i64 0)); have f0 := blk_frozen HB1.out 0; have y0 := (blk_cell (blk_alloc HB1.out mk64) 0).trans (rfl : _ = some (Value.slice none 0 0)); have g0 := blk_frozen (blk_alloc HB1.out mk64) 0; have HW1 := Lib.hid hw1; clear hw1)
    | (go_at_call 134; refine (Tryd.Buffer_tryGrow_none b none 0 0 n _ x0 (by omega) (by decide) (by have := HN.out; omega)).mono ?_; rintro e_ w2 ⟨rfl, rfl⟩))
  go_ret
  have HB1' := (show (w2.alloc mk64).heap[b]? = some (.cells #[.slice none 0 0, .int .i64 0, .int .i8 lr] 129 (0, 0)) from blk_alloc HB1.out mk64)
  have hs1 : w2.heap.size = w.heap.size := by rw [HW1.out]; rfl
  have hlt := blk_lt H0.out
  refine ⟨rfl, w2.heap.size, _, by omega, blk_set HB1' 0 _, (blk_far (heap_alloc_new w2 mk64) (by show w2.heap.size ≠ b; omega) _), mk64_size, ?_⟩
  refine ⟨by rw [HW1.out]; rfl, by rw [HW1.out]; rfl, by rw [HW1.out]; rfl, by rw [World.size_setCell, World.size_alloc]; omega, fun k hk h1 h2 => ?_⟩
  rw [Below.heap_setCell _ _ _ _ h1, (below_alloc (Below.refl w2.heap.size w2) mk64).block k (by omega), HW1.out]
  rfl
end Go.Proofs.YtgdbeiadlgkedaaDoor
set_option linter.unusedVariables false
set_option linter.unusedSimpArgs false
namespace Go.Proofs.YtgdbeiadlgkedaaDoor
open Go.RowKit Go.Proofs.YtgdbeiadlgkedaaDoorW.PrintWords Go.Proofs.YtgdbeiadlgkedaaDoorW.PrintLast Go.Proofs.YtgdbeiadlgkedaaDoorW.PrintMore
theorem Kp.set {b g : Nat} {w w1 : World} (h : Kp b g w w1) (j : Nat) (u : Value) : Kp b g w (w1.setCell ⟨b, j, none⟩ u) :=
  ⟨h.1, h.2.1, h.2.2.1, by rw [World.size_setCell]; exact h.2.2.2.1, fun k hk h1 h2 => (Below.heap_setCell _ _ _ _ h1).trans (h.2.2.2.2 k hk h1 h2)⟩
theorem Kp.refl (b g : Nat) (w : World) : Kp b g w w := ⟨rfl, rfl, rfl, Nat.le_refl _, fun _ _ _ _ => rfl⟩
theorem Kp.row {b g : Nat} {w w1 : World} (h : Kp b g w w1) (cs : Array Value) : Kp b g w (w1.setRow g cs) :=
  ⟨h.1, h.2.1, h.2.2.1, by simp [World.setRow]; exact h.2.2.2.1, fun k hk h1 h2 => (setRow_other _ _ _ _ h2).trans (h.2.2.2.2 k hk h1 h2)⟩
set_option maxHeartbeats 3200000 in
set_option maxRecDepth 100000 in
theorem write_first (b : Nat) (l2 : List UInt8) (a : Addr) (n c : Nat) (lr : Int) (w : World) (hb : w.heap[b]? = some (.cells #[.slice none 0 0, .int .i64 0, .int .i8 lr] 129 (0, 0))) (hn : l2.length = n) (hn1 : 1 ≤ n) (hr : n ≤ 64) (h1 : a.block ≠ b) (hlt : a.block < w.heap.size) (hs : At w a l2) :
    Calls Tryd.prog 132 #[.pointer (some ⟨b, 0, none⟩), .slice (some a) n c] w fun e w' => e = .returned (.tuple #[.int .i64 n, .nilIface]) ∧ ∃ g, w.heap.size ≤ g ∧ BR b g l2 w' ∧ Kp b g w w' := by
  have x0 := (blk_cell hb 0).trans (rfl : _ = some (Value.slice none 0 0))
  have x2 := (blk_cell hb 2).trans (rfl : _ = some (Value.int .i8 lr))
  have f2 := blk_frozen hb 2
  have HB0 := Lib.hid (blk_set hb 2 (.int .i8 0))
  have HN := Lib.hid (And.intro hn (And.intro hn1 hr))
  have HS := Lib.hid hs
  have HD := Lib.hid (And.intro h1 (And.intro hlt (blk_lt hb)))
  have HG := Lib.hid (grow_nil b n 0 (w.setCell ⟨b, 2, none⟩ (.int .i8 0)) (blk_set hb 2 (.int .i8 0)) hn1 hr)
  have HT := Lib.hid (Tryd.Buffer_tryGrow_none b none 0 0 n (w.setCell ⟨b, 2, none⟩ (.int .i8 0)) ((blk_cell (blk_set hb 2 (.int .i8 0)) 0).trans rfl) (Nat.le_refl _) (by decide) (by omega))
  clear hb hn hn1 hr hs h1 hlt
  go_enter Tryd.func132, Tryd.ntmps132
  go_wp2_with (first
    | (go_at_call 134; refine HT.out.mono ?_; rintro e_ w1 ⟨rfl, rfl⟩)
    | (go_at_call 135; refine HG.out.mono ?_; rintro e_ w2 ⟨rfl, g, cur, hge, hb2, hg2, hcs, hkp⟩; have hge' : w.heap.size ≤ g := by rw [World.size_setCell] at hge; exact hge
       have HK := Lib.hid (And.intro hge' (And.intro hb2 (And.intro hg2 (And.intro hcs hkp)))); have z0 := (blk_cell hb2 0).trans (rfl : _ = some (Value.slice (some ⟨g, 0, none⟩) n 64)); have HS1 := Lib.hid (show At w2 a l2 from HS.out.kept ((hkp.2.2.2.2 a.block (by rw [World.size_setCell]; exact HD.out.2.1) HD.out.1 (by have := HD.out.2.1; omega)).trans (Below.heap_setCell _ _ _ _ HD.out.1))); have hcp := run_copy_row (P := Tryd.prog) w2 29 29 3 5 g 0 n 64 a n c cur 5 (Lib.byteCells l2) Tryd.underlying29 (by kernel_rfl) hg2 (by rw [Lib.byteCells_length, HN.out.1]; exact (Nat.min_self n).symm) HS1.out.cells (by rw [Lib.byteCells_length]; have := HN.out; omega) (Lib.byteCells_one _); rw [Lib.byteCells_length, HN.out.1] at hcp; have q1 : n ≤ 64 := HN.out.2.2; clear hge hge' hb2 hg2 hcs hkp))
  go_ret2
  obtain ⟨hge, hb2, hg2, hcs, hkp⟩ := HK.out
  have hgb : g ≠ b := by have := HD.out.2.2; omega
  refine ⟨rfl, g, hge, ⟨0, _, ?_, setRow_heap w2 g cur _ 5 (0, 0) hg2, ?_, ?_, hgb⟩, ?_⟩
  · rw [HN.out.1]; exact (setRow_other _ _ _ _ (fun e => hgb e.symm)).trans hb2
  · simp only [List.size_toArray, List.length_append, List.length_take, List.length_drop, Array.length_toList, Lib.byteCells_length]
    have := HN.out; omega
  · simp [Lib.byteCells_length]
  · have h0 : Kp b g w (w.setCell ⟨b, 2, none⟩ (.int .i8 0)) := (Kp.refl b g w).set 2 _
    exact Kp.row (h0.trans hkp) _
end Go.Proofs.YtgdbeiadlgkedaaDoor
set_option linter.unusedVariables false
set_option linter.unusedSimpArgs false
namespace Go.Proofs.YtgdbeiadlgkedaaDoor
open Go.RowKit Go.Proofs.YtgdbeiadlgkedaaDoorW.PrintWords Go.Proofs.YtgdbeiadlgkedaaDoorW.PrintLast Go.Proofs.YtgdbeiadlgkedaaDoorW.PrintMore
theorem Kp.below {b g : Nat} {w w1 : World} (h : Below w.heap.size w w1) : Kp b g w w1 := ⟨h.os, h.tape, h.output, h.size, fun k hk _ _ => h.block k hk⟩
theorem BR.below {b g : Nat} {l : List UInt8} {w w1 : World} (h : BR b g l w) (hb : Below w.heap.size w w1) : BR b g l w1 := by
  obtain ⟨lr, cur, h1, h2, h3, h4, h5⟩ := h
  exact ⟨lr, cur, blk_below h1 hb, blk_below h2 hb, h3, h4, h5⟩
theorem wrU_first (b : Nat) (l2 : List UInt8) (a : Addr) (n c : Nat) (lr : Int) (w : World) (hb : w.heap[b]? = some (.cells #[.slice none 0 0, .int .i64 0, .int .i8 lr] 129 (0, 0))) (hn : l2.length = n) (hn1 : 1 ≤ n) (hr : n ≤ 64) (h1 : a.block ≠ b) (hlt : a.block < w.heap.size) (hs : At w a l2) :
    Calls Tryd.prog 102 #[bfI b, .slice (some a) n c] w fun e w' => e = .returned (.tuple #[.int .i64 n, .nilIface]) ∧ ∃ g, w.heap.size ≤ g ∧ BR b g l2 w' ∧ Kp b g w w' := by
  have HC := Lib.hid (write_first b l2 a n c lr w hb hn hn1 hr h1 hlt hs)
  clear hb hn hn1 hr h1 hlt hs
  go_enter Tryd.func102, Tryd.ntmps102
  go_wp2_with (go_at_call 132; refine HC.out.mono ?_; rintro e_ w1 ⟨rfl, h1⟩; have H1 := Lib.hid h1; clear h1)
  go_ret2
  exact ⟨rfl, H1.out⟩
theorem encI_first (b : Nat) (t : Int) (w : World) (hb : w.heap[b]? = some (.cells #[.slice none 0 0, .int .i64 0, .int .i8 0] 129 (0, 0))) :
    Calls Tryd.prog 82 #[.int .i64 t, bfI b] w fun e w' => e = .returned .nilIface ∧ ∃ g, w.heap.size ≤ g ∧ BR b g (Lib.uvarint (u64of t)) w' ∧ Kp b g w w' :=
  encVarI_abs b t w (fun w' => ∃ g, w.heap.size ≤ g ∧ BR b g (Lib.uvarint (u64of t)) w' ∧ Kp b g w w') (encVar_abs b (u64of t) w (u64of_lt t) _ (fun a c w1 hb1 ha hs => by
    have hl := Lib.uvarint_length64 (u64of_lt t)
    have hp := Lib.uvarint_pos (u64of t)
    have hbl := blk_lt hb
    refine (wrU_first b _ a _ c 0 w1 (blk_below hb hb1) rfl hp (by omega) (by omega) ?_ hs).mono fun e w' ⟨h1, g, h2, h3, h4⟩ => ⟨h1, g, Nat.le_trans hb1.size h2, h3, (Kp.below hb1).trans h4⟩
    have h0 := hs 0
    cases hu : Lib.uvarint (u64of t) with
    | nil => rw [hu] at hp; simp at hp
    | cons x xs =>
      have := hs 0 x (by rw [hu]; rfl)
      exact World.block_lt_of_cell? _ _ this))
end Go.Proofs.YtgdbeiadlgkedaaDoor
set_option linter.unusedVariables false
set_option linter.unusedSimpArgs false
namespace Go.Proofs.YtgdbeiadlgkedaaDoor
open Go.RowKit
open Go.Joins (below_bytesWorld)
theorem BR.bf' {b g B : Nat} {l : List UInt8} {w : World} (h : BR b g l w) (hb : B ≤ b) (hg : B ≤ g) (hl : l.length ≤ 64) : Bf B b l w := by
  obtain ⟨lr, cur, h1, h2, h3, h4, h5⟩ := h
  have e : (Lib.byteCells l).length = l.length := Lib.byteCells_length l
  refine ⟨hb, .slice (some ⟨g, 0, none⟩) l.length 64, lr, h1, ⟨by omega, .inr ⟨g, 64, cur, by rw [e], hg, h2, by omega, by unfold maxLen; omega, by omega, by rw [e, Nat.mul_one]; exact h4⟩⟩, ?_⟩
  intro e2
  simp [Value.ownBlock] at e2
  exact h5 e2
theorem Kp.low {b g B : Nat} {w w' : World} (h : Kp b g w w') (hb : B ≤ b) (hg : B ≤ g) (hB : B ≤ w.heap.size) : Below B w w' :=
  ⟨h.1, h.2.1, h.2.2.1, h.2.2.2.1, fun k hk => h.2.2.2.2 k (by omega) (by omega) (by omega)⟩
set_option maxHeartbeats 4000000 in
set_option maxRecDepth 100000 in
theorem encBytes_any (b : Nat) (l : List UInt8) (a n c : Nat) (w : World) (hb : w.heap[b]? = some (.cells #[.slice none 0 0, .int .i64 0, .int .i8 0] 129 (0, 0))) (hs : At w ⟨a, 0, none⟩ l) (hn : l.length = n) (hab : a ≠ b) (hlt : a < w.heap.size) (hl : n ≤ 1000000) :
    Calls Tryd.prog 70 #[.slice (some ⟨a, 0, none⟩) n c, bfI b] w fun e w' => e = .returned .nilIface ∧ Bf b b (Lib.uvarint n ++ l) w' ∧ Below b w w' := by
  have hu : u64of (n : Int) = n := u64of_nat n (by omega)
  have H0 := Lib.hid (encI_first b (n : Int) w hb)
  rw [hu] at H0
  have HS := Lib.hid hs
  have HN := Lib.hid (And.intro hn (And.intro hab (And.intro hlt (And.intro hl (And.intro (blk_lt hb) (Lib.uvarint_length64 (x := n) (by omega)))))))
  clear hb hs hn hab hlt hl hu
  go_enter Tryd.func70, Tryd.ntmps70
  go_wp2_with (first
    | (go_at_call 82; go_loud (refine H0.out.mono ?_; rintro e_ w1 ⟨rfl, g, h1, h2, h3⟩; have hg : b ≤ g := (by have := HN.out; omega); have HF := Lib.hid (h2.bf' (B := b) (Nat.le_refl _) hg (by have := HN.out; omega)); have HB := Lib.hid (h3.low (B := b) (Nat.le_refl _) hg (by have := HN.out; omega)); have HA := Lib.hid (h3.at HS.out HN.out.2.2.1 HN.out.2.1 (by have := HN.out; show a ≠ g; omega)); clear h1 h2 h3 hg))
    | (go_at_call 132; go_loud (refine (write_any b b _ l ⟨a, 0, none⟩ n c w1 HF.out HN.out.1 HN.out.2.1 HA.out (by have := HN.out; omega)).mono ?_; rintro e_ w2 ⟨rfl, h1, h2, _⟩; have H2 := Lib.hid (And.intro h1 (HB.out.trans h2)); clear h1 h2)))
  go_ret
  exact ⟨rfl, H2.out⟩
set_option maxHeartbeats 4000000 in
set_option maxRecDepth 100000 in
theorem encUTF8_any (B b : Nat) (s : ByteArray) (l0 : List UInt8) (w : World) (h : Bf B b l0 w) (hs : s.size ≤ 1000000) (hl0 : l0.length ≤ 900000) :
    Calls Tryd.prog 79 #[.string s, bfI b] w fun e w' => e = .returned .nilIface ∧ Bf B b (l0 ++ Lib.uvarint s.size ++ s.data.toList) w' ∧ Below B w w' := by
  have hu : u64of (s.size : Int) = s.size := u64of_nat _ (by omega)
  have H0 := Lib.hid (encVarI_any B b (s.size : Int) l0 w h (by omega))
  rw [hu] at H0
  have HN := Lib.hid (And.intro hs (And.intro hl0 (Lib.uvarint_length64 (x := s.size) (by omega))))
  have q1 : (s.size : Int) ≤ 1000000 := by omega
  clear h hs hl0 hu
  go_enter Tryd.func79, Tryd.ntmps79
  go_wp2_with (first
    | (go_at_call 82; go_loud (refine H0.out.mono ?_; rintro e_ w1 ⟨rfl, h1, h2, _⟩; have H1 := Lib.hid (And.intro h1 h2); clear h1 h2))
    | (go_at_call 106; go_loud (refine (encStr_any B b s _ w1 H1.out.1 HN.out.1 (by have := HN.out; rw [List.length_append]; omega)).mono ?_; rintro e_ w2 ⟨rfl, h1, h2⟩; have H2 := Lib.hid (And.intro h1 (H1.out.2.trans h2)); clear h1 h2)))
  go_ret
  exact ⟨rfl, H2.out⟩
set_option maxHeartbeats 4000000 in
set_option maxRecDepth 100000 in
theorem encVal_8 (fl : Bool) (n u b : Int) (t : ByteArray) (pt : Int) (pf pl : Bool) (pi pn : Int) (w : World) (ht : t.size ≤ 1000000) :
    Calls Tryd.prog 27 #[.agg #[.int .i64 8, .bool fl, .int .i64 n, .int .u64 u, .int .u64 b, .string t, .int .i64 pt, .bool pf, .bool pl, .int .i64 pi, .int .i64 pn]] w fun e w' => e = .returned (.tuple #[.string ⟨(Lib.uvarint t.size ++ t.data.toList).toArray⟩, .string ⟨#[]⟩]) ∧ Below w.heap.size w w' := by
  have hF : Bf (w.heap.size + 1) (w.heap.size + 1) [] ((w.alloc (.cells #[.int .i64 8, .bool fl, .int .i64 n, .int .u64 u, .int .u64 b, .string t, .int .i64 pt, .bool pf, .bool pl, .int .i64 pi, .int .i64 pn] 26)).alloc (.cells #[.slice none 0 0, .int .i64 0, .int .i8 0] 129)) := by
    have := fresh_Bf (w.alloc (.cells #[.int .i64 8, .bool fl, .int .i64 n, .int .u64 u, .int .u64 b, .string t, .int .i64 pt, .bool pf, .bool pl, .int .i64 pi, .int .i64 pn] 26)); rwa [World.size_alloc] at this
  have HC := Lib.hid (encUTF8_any _ _ t [] _ hF ht (by decide))
  rw [List.nil_append] at HC
  clear hF ht
  go_enter Tryd.func27, Tryd.ntmps27
  go_wp2_with (first
    | (go_at_call 79; go_loud (refine HC.out.mono ?_; rintro e_ w1 ⟨rfl, h1, h2⟩; have H1 := Lib.hid h1; have H2 := Lib.hid h2; clear h1 h2))
    | (go_at_call 84; refine (string_any _ _ _ _ H1.out).mono ?_; rintro e_ w2 ⟨rfl, q2, hq⟩; have HQ := Lib.hid (enc_below H2.out hq); clear hq)
    | (go_at_call 63; refine (word_nil _).mono ?_; rintro e_ w3 ⟨rfl, rfl⟩))
  all_goals (go_ret2; exact ⟨rfl, HQ.out⟩)
theorem bytesAt0 (w : World) (s : ByteArray) : At (Lib.bytesWorld w 5 s) ⟨w.heap.size, 0, none⟩ s.data.toList := At.mk fun j x hj => by
  have hjl : j < s.size := by have := (List.getElem?_eq_some_iff.1 hj).1; rwa [Array.length_toList] at this
  have := Lib.bytesWorld_cell w 5 s j hjl
  rw [List.getD_eq_getElem?_getD, hj] at this
  exact this
theorem bytesLt0 (w : World) (s : ByteArray) : w.heap.size < (Lib.bytesWorld w 5 s).heap.size := by
  rw [Lib.bytesWorld_size]; omega
theorem enc_belowB {w w2 w3 : World} {o o2 : Obj} {n : Nat} {s : ByteArray} (h : Below (w.heap.size + 1) (Lib.bytesWorld ((w.alloc o).alloc o2) 5 s) w2) (h3 : w3 = w2.drewN n) : Below w.heap.size w w3 := by
  subst h3
  have h0 : Below w.heap.size w ((w.alloc o).alloc o2) := ((Below.refl _ w).alloc (Nat.le_refl _) _).alloc (by simp) _
  have h1 := h0.trans ((show Below _ _ (Lib.bytesWorld ((w.alloc o).alloc o2) 5 s) from below_bytesWorld _ ((w.alloc o).alloc o2) _ s (Nat.le_refl _)).mono (by simp; omega))
  have h2 := h1.trans (h.mono (by omega))
  exact ⟨h2.os, h2.tape, h2.output, h2.size, h2.block⟩
set_option maxHeartbeats 4000000 in
set_option maxRecDepth 100000 in
theorem encVal_2 (fl : Bool) (n u b : Int) (t : ByteArray) (pt : Int) (pf pl : Bool) (pi pn : Int) (w : World) (ht : t.size ≤ 1000000) :
    Calls Tryd.prog 27 #[.agg #[.int .i64 2, .bool fl, .int .i64 n, .int .u64 u, .int .u64 b, .string t, .int .i64 pt, .bool pf, .bool pl, .int .i64 pi, .int .i64 pn]] w fun e w' => e = .returned (.tuple #[.string ⟨(Lib.uvarint t.size ++ t.data.toList).toArray⟩, .string ⟨#[]⟩]) ∧ Below w.heap.size w w' := by
  have kc := conv_bytes
  obtain ⟨W, hW⟩ : ∃ W, W = (w.alloc (.cells #[.int .i64 2, .bool fl, .int .i64 n, .int .u64 u, .int .u64 b, .string t, .int .i64 pt, .bool pf, .bool pl, .int .i64 pi, .int .i64 pn] 26)).alloc (.cells #[.slice none 0 0, .int .i64 0, .int .i8 0] 129) := ⟨_, rfl⟩
  have hsz : W.heap.size = w.heap.size + 2 := by rw [hW]; simp
  have hbw : Below W.heap.size W (Lib.bytesWorld W 5 t) := below_bytesWorld _ W _ t (Nat.le_refl _)
  have hb0 : W.heap[w.heap.size + 1]? = some (.cells #[.slice none 0 0, .int .i64 0, .int .i8 0] 129 (0, 0)) := by
    have := heap_alloc_new (w.alloc (.cells #[.int .i64 2, .bool fl, .int .i64 n, .int .u64 u, .int .u64 b, .string t, .int .i64 pt, .bool pf, .bool pl, .int .i64 pi, .int .i64 pn] 26)) (.cells #[.slice none 0 0, .int .i64 0, .int .i8 0] 129)
    rw [World.size_alloc] at this
    rw [hW]; exact this
  have hC := fun c => encBytes_any (w.heap.size + 1) t.data.toList W.heap.size t.size c (Lib.bytesWorld W 5 t) ((hbw.block _ (by omega)).trans hb0) (bytesAt0 W t) (by rw [Array.length_toList]; rfl) (by omega) (bytesLt0 W t) ht
  have hsz2 : W.heap.size = w.heap.size + 1 + 1 := by omega
  rw [hsz2, hW] at hC
  have HC := Lib.hid hC
  clear hC hb0 hbw hsz hsz2 hW ht
  go_enter Tryd.func27, Tryd.ntmps27
  go_wp2_with (first
    | (go_at_call 70; go_loud ((with_reducible refine (HC.out _).mono ?_); rintro e_ w1 ⟨rfl, h1, h2⟩; have H1 := Lib.hid h1; have H2 := Lib.hid h2; clear h1 h2))
    | (go_at_call 84; refine (string_any _ _ _ _ H1.out).mono ?_; rintro e_ w2 ⟨rfl, q2, hq⟩; have HQ := Lib.hid (enc_belowB H2.out hq); clear hq)
    | (go_at_call 63; refine (word_nil _).mono ?_; rintro e_ w3 ⟨rfl, rfl⟩))
  all_goals (go_ret2; exact ⟨rfl, HQ.out⟩)
end Go.Proofs.YtgdbeiadlgkedaaDoor
namespace Go.Proofs.YtgdbeiadlgkedaaDoor.PFnPaneEarly
open Go.RowKit Go.Proofs.YtgdbeiadlgkedaaDoorW.PrintWords Go.Proofs.YtgdbeiadlgkedaaDoorW.PrintLast Go.Proofs.YtgdbeiadlgkedaaDoorW.PrintMore
attribute [local go_sem] max2_int min2_int max_two min_two max_three min_three max_four min_four
set_option linter.unusedVariables false
set_option linter.unusedSimpArgs false
def errW : Option Int → Value
  | none => .nilIface
  | some c => .iface 0 (.int .i64 c)
theorem errW_none : errW none = .nilIface := rfl
theorem errW_some (c : Int) : errW (some c) = .iface 0 (.int .i64 c) := rfl
end Go.Proofs.YtgdbeiadlgkedaaDoor.PFnPaneEarly
set_option linter.unusedVariables false
set_option linter.unusedSimpArgs false
namespace Go.Proofs.YtgdbeiadlgkedaaDoor
open Go.RowKit PFnPaneEarly
def phead (t : Nat) (f l : Bool) : Nat := t * 4 + (if f then 1 else 0) + (if l then 2 else 0)
theorem phead_lt {t : Nat} (h : t < 4) (f l : Bool) : phead t f l < 16 := by unfold phead; split <;> split <;> omega
theorem or16 : ∀ (h : Fin 16), Go.bits .or .u8 ((h : Nat) : Int) 16 = (((h : Nat) + 16 : Nat) : Int) := by decide +kernel
theorem or32 : ∀ (h : Fin 16), Go.bits .or .u8 ((h : Nat) : Int) 32 = (((h : Nat) + 32 : Nat) : Int) := by decide +kernel
def u64n (t : Int) : Nat := (t % 18446744073709551616).toNat
theorem u64n_lt (t : Int) : u64n t < 18446744073709551616 := by unfold u64n; omega
def pbytes (t : Nat) (f l : Bool) (i n : Int) : List UInt8 :=
  if (i = 0 ∧ n = 0) ∨ t = 3 then [(phead t f l).toUInt8]
  else if i = n ∨ t = 0 then (phead t f l + 16).toUInt8 :: Lib.uvarint (u64n i)
  else (phead t f l + 32).toUInt8 :: (Lib.uvarint (u64n i) ++ Lib.uvarint (u64n n))
end Go.Proofs.YtgdbeiadlgkedaaDoor
set_option linter.unusedVariables false
set_option linter.unusedSimpArgs false
namespace Go.Proofs.YtgdbeiadlgkedaaDoor
open Go.RowKit Go.Proofs.YtgdbeiadlgkedaaDoorW.PrintWords Go.Proofs.YtgdbeiadlgkedaaDoorW.PrintLast Go.Proofs.YtgdbeiadlgkedaaDoorW.PrintMore
theorem kept100 {b k : Nat} {cs : Array Value} {w w' : World} (h : Lib.OthersKept 5 (some b) w w') (hk : w.heap[k]? = some (.cells cs 100 (0, 0))) (hne : k ≠ b) : w'.heap[k]? = some (.cells cs 100 (0, 0)) :=
  h k _ hk (by simpa using hne) (fun c fz e => by injection e with _ e _; exact absurd e (by decide))
theorem one_wr (B b : Nat) (l0 : List UInt8) (m : Nat) (hm : m < 256) (w : World) (cs : Array Value) (h : Bf B b l0 w) (hlim : l0.length + 1 ≤ 140737488355328) :
    Calls Tryd.prog 132 #[.pointer (some ⟨b, 0, none⟩), .slice (some ⟨w.heap.size + 1, 0, none⟩) 1 1] ((w.alloc (.cells cs 100)).alloc (.cells #[.int .u8 (m : Int)] 5)) fun e w' => e = .returned (.tuple #[.int .i64 1, .nilIface]) ∧ Bf B b (l0 ++ [m.toUInt8]) w' ∧ Below B w w' ∧ w'.heap[w.heap.size]? = some (.cells cs 100 (0, 0)) := by
  have hb : Below w.heap.size w ((w.alloc (.cells cs 100)).alloc (.cells #[.int .u8 (m : Int)] 5)) := ((Below.refl _ w).alloc (Nat.le_refl _) _).alloc (by simp) _
  have hs := h.size
  have hlt := h.lt
  have hx : ((w.alloc (.cells cs 100)).alloc (.cells #[.int .u8 (m : Int)] 5)).heap[w.heap.size]? = some (.cells cs 100 (0, 0)) := blk_alloc (heap_alloc_new w (.cells cs 100)) _
  refine (write_any B b l0 [m.toUInt8] ⟨w.heap.size + 1, 0, none⟩ 1 1 _ (h.old hb) rfl (by show w.heap.size + 1 ≠ b; omega) (At.mk fun j x hj => ?_) hlim).mono fun e w' ⟨h1, h2, h3, h4⟩ => ⟨h1, h2, Below.lower hb hs h3, kept100 h4 hx (by omega)⟩
  have hn := heap_alloc_new (w.alloc (.cells cs 100)) (.cells #[.int .u8 (m : Int)] 5)
  rw [World.size_alloc] at hn
  rw [blk_cell hn j]
  cases j with
  | zero => simp at hj; subst hj; simp [Nat.toUInt8, UInt8.toNat_ofNat', Nat.mod_eq_of_lt hm]
  | succ j => simp at hj
theorem hd_enc : ∀ (t : Fin 4) (f l : Bool), Go.bits .or .u8 (if l then Go.bits .or .u8 (if f then Go.bits .or .u8 0 1 else 0) 2 else (if f then Go.bits .or .u8 0 1 else 0)) (((t : Nat) : Int) * 4) = (phead t f l : Int) := by decide +kernel
set_option maxHeartbeats 2000000 in
set_option maxRecDepth 100000 in
theorem encPane_a1 (B b : Nat) (t : Nat) (ht : t < 4) (f l : Bool) (i n : Int) (hi : i = 0) (hn : n = 0) (l0 : List UInt8) (w : World) (h : Bf B b l0 w) (hlim : l0.length + 100 ≤ 140737488355328) :
    Calls Tryd.prog 75 #[.agg #[.int .u8 t, .bool f, .bool l, .int .i64 i, .int .i64 n], bfI b] w fun e w' => e = .returned .nilIface ∧ Bf B b (l0 ++ [(phead t f l).toUInt8]) w' ∧ Below B w w' := by
  have H := Lib.hid h
  have HL := Lib.hid hlim
  have P1 := hd_enc ⟨t, ht⟩ f l
  have O16 := or16 ⟨phead t f l, phead_lt ht f l⟩
  have O32 := or32 ⟨phead t f l, phead_lt ht f l⟩
  have hp := phead_lt ht f l
  simp only at P1 O16 O32
  generalize phead t f l = ph at P1 O16 O32 hp ⊢
  obtain ⟨m16, h16⟩ : ∃ m, ph + 16 = m := ⟨_, rfl⟩
  obtain ⟨m32, h32⟩ : ∃ m, ph + 32 = m := ⟨_, rfl⟩
  rw [h16] at O16
  rw [h32] at O32
  try rw [h16]
  try rw [h32]
  have HM := Lib.hid (And.intro hp (And.intro h16 h32))
  clear h hlim hp h16 h32
  subst hi
  subst hn
  cases f <;> cases l <;> (
    simp only [Bool.false_eq_true, if_false, if_true] at P1
    go_enter Tryd.func75, Tryd.ntmps75
    go_wp2_with (first
      | (go_at_call 132; (refine (one_wr B b l0 ph (by have := HM.out; omega) w _ H.out (by have := HL.out; omega)).mono ?_; rintro e_ w1 ⟨rfl, h1, h2, h3⟩; have H1 := Lib.hid h1; have H2 := Lib.hid h2; have HX := Lib.hid h3; have x3 := (blk_cell h3 3).trans (rfl : _ = some (Value.int .i64 (0))); have x4 := (blk_cell h3 4).trans (rfl : _ = some (Value.int .i64 (0))); clear h1 h2 h3)))
    go_ret
    exact ⟨rfl, H1.out, H2.out⟩)
set_option maxHeartbeats 2000000 in
set_option maxRecDepth 100000 in
theorem encPane_a2 (B b : Nat) (t : Nat) (ht : t < 4) (f l : Bool) (i n : Int) (ht3 : t = 3) (hi : i ≠ 0) (l0 : List UInt8) (w : World) (h : Bf B b l0 w) (hlim : l0.length + 100 ≤ 140737488355328) :
    Calls Tryd.prog 75 #[.agg #[.int .u8 t, .bool f, .bool l, .int .i64 i, .int .i64 n], bfI b] w fun e w' => e = .returned .nilIface ∧ Bf B b (l0 ++ [(phead t f l).toUInt8]) w' ∧ Below B w w' := by
  have H := Lib.hid h
  have HL := Lib.hid hlim
  have P1 := hd_enc ⟨t, ht⟩ f l
  have O16 := or16 ⟨phead t f l, phead_lt ht f l⟩
  have O32 := or32 ⟨phead t f l, phead_lt ht f l⟩
  have hp := phead_lt ht f l
  simp only at P1 O16 O32
  generalize phead t f l = ph at P1 O16 O32 hp ⊢
  obtain ⟨m16, h16⟩ : ∃ m, ph + 16 = m := ⟨_, rfl⟩
  obtain ⟨m32, h32⟩ : ∃ m, ph + 32 = m := ⟨_, rfl⟩
  rw [h16] at O16
  rw [h32] at O32
  try rw [h16]
  try rw [h32]
  have HM := Lib.hid (And.intro hp (And.intro h16 h32))
  clear h hlim hp h16 h32
  have k3 : ((t : Int) == 3) = true := beq_iff_eq.2 (by omega)
  have qi : (i == 0) = false := beq_eq_false_iff_ne.2 (hi)
  clear hi ht3
  cases f <;> cases l <;> (
    simp only [Bool.false_eq_true, if_false, if_true] at P1
    go_enter Tryd.func75, Tryd.ntmps75
    go_wp2_with (first
      | (go_at_call 132; (refine (one_wr B b l0 ph (by have := HM.out; omega) w _ H.out (by have := HL.out; omega)).mono ?_; rintro e_ w1 ⟨rfl, h1, h2, h3⟩; have H1 := Lib.hid h1; have H2 := Lib.hid h2; have HX := Lib.hid h3; have x3 := (blk_cell h3 3).trans (rfl : _ = some (Value.int .i64 (i))); have x4 := (blk_cell h3 4).trans (rfl : _ = some (Value.int .i64 (n))); clear h1 h2 h3)))
    go_ret
    exact ⟨rfl, H1.out, H2.out⟩)
set_option maxHeartbeats 2000000 in
set_option maxRecDepth 100000 in
theorem encPane_a3 (B b : Nat) (t : Nat) (ht : t < 4) (f l : Bool) (i n : Int) (ht3 : t = 3) (hi : i = 0) (hn : n ≠ 0) (l0 : List UInt8) (w : World) (h : Bf B b l0 w) (hlim : l0.length + 100 ≤ 140737488355328) :
    Calls Tryd.prog 75 #[.agg #[.int .u8 t, .bool f, .bool l, .int .i64 i, .int .i64 n], bfI b] w fun e w' => e = .returned .nilIface ∧ Bf B b (l0 ++ [(phead t f l).toUInt8]) w' ∧ Below B w w' := by
  have H := Lib.hid h
  have HL := Lib.hid hlim
  have P1 := hd_enc ⟨t, ht⟩ f l
  have O16 := or16 ⟨phead t f l, phead_lt ht f l⟩
  have O32 := or32 ⟨phead t f l, phead_lt ht f l⟩
  have hp := phead_lt ht f l
  simp only at P1 O16 O32
  generalize phead t f l = ph at P1 O16 O32 hp ⊢
  obtain ⟨m16, h16⟩ : ∃ m, ph + 16 = m := ⟨_, rfl⟩
  obtain ⟨m32, h32⟩ : ∃ m, ph + 32 = m := ⟨_, rfl⟩
  rw [h16] at O16
  rw [h32] at O32
  try rw [h16]
  try rw [h32]
  have HM := Lib.hid (And.intro hp (And.intro h16 h32))
  clear h hlim hp h16 h32
  subst hi
  have k3 : ((t : Int) == 3) = true := beq_iff_eq.2 (by omega)
  have qn : (n == 0) = false := beq_eq_false_iff_ne.2 (hn)
  clear hn ht3
  cases f <;> cases l <;> (
    simp only [Bool.false_eq_true, if_false, if_true] at P1
    go_enter Tryd.func75, Tryd.ntmps75
    go_wp2_with (first
      | (go_at_call 132; (refine (one_wr B b l0 ph (by have := HM.out; omega) w _ H.out (by have := HL.out; omega)).mono ?_; rintro e_ w1 ⟨rfl, h1, h2, h3⟩; have H1 := Lib.hid h1; have H2 := Lib.hid h2; have HX := Lib.hid h3; have x3 := (blk_cell h3 3).trans (rfl : _ = some (Value.int .i64 (0))); have x4 := (blk_cell h3 4).trans (rfl : _ = some (Value.int .i64 (n))); clear h1 h2 h3)))
    go_ret
    exact ⟨rfl, H1.out, H2.out⟩)
set_option maxHeartbeats 2000000 in
set_option maxRecDepth 100000 in
theorem encPane_b1 (B b : Nat) (t : Nat) (ht : t < 4) (f l : Bool) (i n : Int) (ht3 : t ≠ 3) (ht0 : t ≠ 0) (hi : i ≠ 0) (hin : i = n) (l0 : List UInt8) (w : World) (h : Bf B b l0 w) (hlim : l0.length + 100 ≤ 140737488355328) :
    Calls Tryd.prog 75 #[.agg #[.int .u8 t, .bool f, .bool l, .int .i64 i, .int .i64 n], bfI b] w fun e w' => e = .returned .nilIface ∧ Bf B b (l0 ++ ((phead t f l + 16).toUInt8 :: Lib.uvarint (u64of i))) w' ∧ Below B w w' := by
  have H := Lib.hid h
  have HL := Lib.hid hlim
  have P1 := hd_enc ⟨t, ht⟩ f l
  have O16 := or16 ⟨phead t f l, phead_lt ht f l⟩
  have O32 := or32 ⟨phead t f l, phead_lt ht f l⟩
  have hp := phead_lt ht f l
  simp only at P1 O16 O32
  generalize phead t f l = ph at P1 O16 O32 hp ⊢
  obtain ⟨m16, h16⟩ : ∃ m, ph + 16 = m := ⟨_, rfl⟩
  obtain ⟨m32, h32⟩ : ∃ m, ph + 32 = m := ⟨_, rfl⟩
  rw [h16] at O16
  rw [h32] at O32
  try rw [h16]
  try rw [h32]
  have HM := Lib.hid (And.intro hp (And.intro h16 h32))
  clear h hlim hp h16 h32
  subst hin
  have k3 : ((t : Int) == 3) = false := beq_eq_false_iff_ne.2 (by omega)
  have k0 : ((t : Int) == 0) = false := beq_eq_false_iff_ne.2 (by omega)
  have qi : (i == 0) = false := beq_eq_false_iff_ne.2 (hi)
  clear hi ht3 ht0
  cases f <;> cases l <;> (
    simp only [Bool.false_eq_true, if_false, if_true] at P1
    go_enter Tryd.func75, Tryd.ntmps75
    go_wp2_with (first
      | (go_at_call 132; (refine (one_wr B b l0 m16 (by have := HM.out; omega) w _ H.out (by have := HL.out; omega)).mono ?_; rintro e_ w1 ⟨rfl, h1, h2, h3⟩; have H1 := Lib.hid h1; have H2 := Lib.hid h2; have HX := Lib.hid h3; have x3 := (blk_cell h3 3).trans (rfl : _ = some (Value.int .i64 (i))); have x4 := (blk_cell h3 4).trans (rfl : _ = some (Value.int .i64 (i))); clear h1 h2 h3))
      | (go_at_call 82; (with_reducible refine (encVarI_any B b (i) _ w1 H1.out (by have := HL.out; simp only [List.length_append, List.length_singleton]; omega)).mono ?_); rintro e_ w2 ⟨rfl, h1, h2, h3⟩; have H3 := Lib.hid h1; have H4 := Lib.hid (H2.out.trans h2); have hx := kept100 h3 HX.out (by have := H.out.lt; omega); have x4 := (blk_cell hx 4).trans (rfl : _ = some (Value.int .i64 (i))); clear h1 h2 h3 hx))
    go_ret
    exact ⟨rfl, by have h := H3.out; rw [List.append_assoc] at h; exact h, H4.out⟩)
end Go.Proofs.YtgdbeiadlgkedaaDoor
