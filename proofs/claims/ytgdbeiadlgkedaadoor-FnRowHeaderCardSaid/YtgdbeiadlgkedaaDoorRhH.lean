/- Plain: the bytes of the nil fields as the loop makes them. -/
import Derived.Test.YtgdbeiadlgkedaaDoorRhG
set_option linter.unusedVariables false
set_option linter.unusedSimpArgs false
namespace Go.Proofs.YtgdbeiadlgkedaaDoor
open Go.RowKit
theorem pkU_eq (l : List Bool) (j i : Nat) (h : 8 * j + 8 ≤ i ∨ l.length ≤ i) : pkU l j i = pkU l j l.length := by
  rcases Nat.lt_or_ge i l.length with h1 | h1
  · have h2 : 8 * j + 8 ≤ i := by omega
    rw [pkU_high l j i h2, pkU_high l j l.length (by omega)]
  · exact pkU_end l j i h1
/-- The bytes that are full. -/
def rowB (l : List Bool) (m : Nat) : List UInt8 := (List.range m).map fun j => (pkU l j (8 * j + 8)).toUInt8
theorem rowB_succ (l : List Bool) (m : Nat) : rowB l (m + 1) = rowB l m ++ [(pkU l m (8 * m + 8)).toUInt8] := by unfold rowB; rw [List.range_succ, List.map_append]; rfl
theorem rowB_len (l : List Bool) (m : Nat) : (rowB l m).length = m := by unfold rowB; rw [List.length_map, List.length_range]
theorem row_end (l : List Bool) (n m k : Nat) (hm : m = (n - 1) / 8) (hn : l.length ≤ n) (hk : k = (lastB l n + 1).toNat) : k ≤ m + 1 ∧ (rowB l m ++ [(pkU l m n).toUInt8]).take k = (rbytes l).map Nat.toUInt8 := by
  have hb := lastB_bd l n
  have hk1 : k ≤ m + 1 := by omega
  have he := lastB_end l n hn
  refine ⟨hk1, ?_⟩
  unfold rbytes
  rw [← he, ← hk, List.map_map]
  apply List.ext_getElem?
  intro q
  rw [List.getElem?_take]
  by_cases hq : q < k
  · rw [if_pos hq, List.getElem?_map, List.getElem?_range hq]
    rcases Nat.lt_or_ge q m with h | h
    · rw [List.getElem?_append_left (by rw [rowB_len]; exact h)]
      unfold rowB
      rw [List.getElem?_map, List.getElem?_range h]
      simp only [Option.map_some, Function.comp]
      rw [pkU_eq l q (8 * q + 8) (.inl (Nat.le_refl _))]
    · obtain rfl : q = m := by omega
      rw [List.getElem?_append_right (by rw [rowB_len]; exact Nat.le_refl _), rowB_len, Nat.sub_self]
      simp only [List.getElem?_cons_zero, Option.map_some, Function.comp]
      rw [pkU_eq l q n (.inr hn)]
  · rw [if_neg hq, List.getElem?_eq_none (by simp; omega)]
theorem rbytes_k (l : List Bool) (n k : Nat) (hn : l.length ≤ n) (hk : k = (lastB l n + 1).toNat) : (rbytes l).length = k := by
  unfold rbytes
  rw [List.length_map, List.length_range, ← lastB_end l n hn, ← hk]
end Go.Proofs.YtgdbeiadlgkedaaDoor
