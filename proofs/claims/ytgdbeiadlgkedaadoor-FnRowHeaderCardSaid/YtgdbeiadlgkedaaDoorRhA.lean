/- Plain: the packed bits of a row's nil fields. -/
import Derived.Test.YtgdbeiadlgkedaaDoorPFnRowHeadery
import Derived.Lib.Varint
set_option linter.unusedVariables false
set_option linter.unusedSimpArgs false
namespace Go.Proofs.YtgdbeiadlgkedaaDoor
open Go.RowKit
def isN (l : List Bool) (i : Nat) : Bool := l.getD i false
/-- Block j's bits of the fields ahead of i. -/
def pkU (l : List Bool) (j : Nat) : Nat → Nat
  | 0 => 0
  | i + 1 => if i / 8 = j ∧ isN l i = true then pkU l j i + 2 ^ (i % 8) else pkU l j i
/-- The last block with a nil field, of those ahead of i. -/
def lastB (l : List Bool) : Nat → Int
  | 0 => -1
  | i + 1 => if isN l i = true then ((i / 8 : Nat) : Int) else lastB l i
theorem isN_out {l : List Bool} {i : Nat} (h : l.length ≤ i) : isN l i = false := by unfold isN; rw [List.getD_eq_getElem?_getD, List.getElem?_eq_none h]; rfl
theorem pkU_low (l : List Bool) (j : Nat) : ∀ i, i ≤ 8 * j → pkU l j i = 0
  | 0, _ => rfl
  | i + 1, h => by rw [pkU, if_neg (by omega), pkU_low l j i (by omega)]
theorem pkU_lt (l : List Bool) (j : Nat) : ∀ i, 8 * j ≤ i → i ≤ 8 * j + 8 → pkU l j i < 2 ^ (i - 8 * j)
  | 0, h, _ => by rw [pkU]; exact Nat.pos_of_ne_zero (by simp)
  | i + 1, h, h2 => by
    by_cases e : i + 1 = 8 * j
    · rw [pkU_low l j (i + 1) (by omega)]; exact Nat.pos_of_ne_zero (by simp)
    · have ih := pkU_lt l j i (by omega) (by omega)
      have e2 : i + 1 - 8 * j = (i - 8 * j) + 1 := by omega
      have e3 : i % 8 = i - 8 * j := by omega
      rw [e2, Nat.pow_succ, pkU]
      split
      · rw [e3]; omega
      · omega
theorem pkU_step (l : List Bool) (j : Nat) {i : Nat} (h : 8 * j + 8 ≤ i) : pkU l j (i + 1) = pkU l j i := by rw [pkU, if_neg (by omega)]
theorem pkU_high (l : List Bool) (j : Nat) : ∀ i, 8 * j + 8 ≤ i → pkU l j i = pkU l j (8 * j + 8) := by
  intro i h
  induction i with
  | zero => omega
  | succ i ih =>
    by_cases e : i + 1 = 8 * j + 8
    · rw [e]
    · rw [pkU_step l j (by omega), ih (by omega)]
theorem pkU_end (l : List Bool) (j : Nat) : ∀ i, l.length ≤ i → pkU l j i = pkU l j l.length := by
  intro i h
  induction i with
  | zero =>
    have : l.length = 0 := by omega
    rw [this]
  | succ i ih =>
    by_cases e : i + 1 = l.length
    · rw [e]
    · rw [pkU, isN_out (by omega), if_neg (by simp), ih (by omega)]
theorem pkU_256 (l : List Bool) (j i : Nat) : pkU l j i < 256 := by
  rcases Nat.lt_or_ge i (8 * j) with h | h
  · rw [pkU_low l j i (by omega)]; omega
  · rcases Nat.lt_or_ge i (8 * j + 8) with h2 | h2
    · have := pkU_lt l j i h (by omega)
      have h3 : 2 ^ (i - 8 * j) ≤ 2 ^ 8 := Nat.pow_le_pow_right (by decide) (by omega)
      omega
    · rw [pkU_high l j i h2]
      have := pkU_lt l j (8 * j + 8) (by omega) (by omega)
      rw [show 8 * j + 8 - 8 * j = 8 by omega] at this
      omega
theorem lastB_bd (l : List Bool) : ∀ i, -1 ≤ lastB l i ∧ lastB l i * 8 < (i : Int)
  | 0 => by unfold lastB; omega
  | i + 1 => by
    have := lastB_bd l i
    unfold lastB
    split <;> omega
theorem lastB_end (l : List Bool) : ∀ i, l.length ≤ i → lastB l i = lastB l l.length := by
  intro i h
  induction i with
  | zero =>
    have : l.length = 0 := by omega
    rw [this]
  | succ i ih =>
    by_cases e : i + 1 = l.length
    · rw [e]
    · rw [lastB, isN_out (by omega), if_neg (by simp), ih (by omega)]
theorem or_bit : ∀ (k : Fin 8) (x : Fin 256), (x : Nat) < 2 ^ (k : Nat) → Go.bits .or .u8 ((x : Nat) : Int) ((2 ^ (k : Nat) : Nat) : Int) = (((x : Nat) + 2 ^ (k : Nat) : Nat) : Int) := by decide +kernel
/-- The bytes of the nil fields. -/
def rbytes (l : List Bool) : List Nat := (List.range (lastB l l.length + 1).toNat).map fun j => pkU l j l.length
end Go.Proofs.YtgdbeiadlgkedaaDoor
