/- Plain laws: numbers by sevens of bits that are longer than they must be. -/
import Derived.Test.YtgdbeiadlgkedaaDoorPl
namespace Go.Proofs.YtgdbeiadlgkedaaDoor
open Go.Lib

/-- The bytes of a number, all with the high bit. -/
def vcont (x : Nat) : List UInt8 := if h : x < 128 then [(x + 128).toUInt8] else (x % 128 + 128).toUInt8 :: vcont (x / 128)
termination_by x
decreasing_by omega
theorem vcont_small {x : Nat} (h : x < 128) : vcont x = [(x + 128).toUInt8] := by rw [vcont, dif_pos h]
theorem vcont_big {x : Nat} (h : 128 ≤ x) : vcont x = (x % 128 + 128).toUInt8 :: vcont (x / 128) := by rw [vcont, dif_neg (by omega)]
theorem vcont_len : ∀ (n x : Nat), x ≤ n → (vcont x).length = (uvarint x).length := by
  intro n
  induction n with
  | zero => intro x h; obtain rfl : x = 0 := by omega
            rw [vcont_small (by omega), uvarint_small (by omega)]; rfl
  | succ n ih =>
    intro x h
    by_cases hx : x < 128
    · rw [vcont_small hx, uvarint_small hx]; rfl
    · rw [vcont_big (by omega), uvarint_big (by omega), List.length_cons, List.length_cons, ih (x / 128) (by omega)]
/-- The last byte taken off, and with the high bit. -/
theorem vcont_split : ∀ (n x : Nat), x ≤ n → ∃ (pre : List UInt8) (c : UInt8), uvarint x = pre ++ [c] ∧ vcont x = pre ++ [(c.toNat + 128).toUInt8] ∧ c.toNat < 128 := by
  intro n
  induction n with
  | zero => intro x h; obtain rfl : x = 0 := by omega
            exact ⟨[], 0, by rw [uvarint_small (by omega)]; rfl, by rw [vcont_small (by omega)]; rfl, by decide⟩
  | succ n ih =>
    intro x h
    by_cases hx : x < 128
    · exact ⟨[], x.toUInt8, by rw [uvarint_small hx]; rfl, by rw [vcont_small hx, u8_toNat (by omega)]; rfl, by rw [u8_toNat (by omega)]; exact hx⟩
    · obtain ⟨pre, c, h1, h2, h3⟩ := ih (x / 128) (by omega)
      exact ⟨(x % 128 + 128).toUInt8 :: pre, c, by rw [uvarint_big (by omega), h1]; rfl, by rw [vcont_big (by omega), h2]; rfl, h3⟩
theorem vrd_cont : ∀ (n x i acc : Nat) (rest : List UInt8), x ≤ n → i + (uvarint x).length ≤ 9 → vrd i acc (vcont x ++ rest) = vrd (i + (uvarint x).length) (acc + x * 2 ^ (7 * i)) rest := by
  intro n
  induction n with
  | zero =>
    intro x i acc rest h hl
    obtain rfl : x = 0 := by omega
    rw [uvarint_small (by omega)] at hl ⊢
    rw [vcont_small (by omega), List.singleton_append, vrd_on (by simp at hl; omega) (by rw [u8_toNat (by omega)]; omega), u8_toNat (by omega)]
    simp
  | succ n ih =>
    intro x i acc rest h hl
    by_cases hx : x < 128
    · rw [uvarint_small hx] at hl ⊢
      have e : (x + 128) % 128 = x := by omega
      rw [vcont_small hx, List.singleton_append, vrd_on (by simp at hl; omega) (by rw [u8_toNat (by omega)]; omega), u8_toNat (by omega), e]
      rfl
    · rw [uvarint_big (by omega), List.length_cons] at hl ⊢
      have e : (x % 128 + 128) % 128 = x % 128 := by omega
      rw [vcont_big (by omega), List.cons_append, vrd_on (by omega) (by rw [u8_toNat (by omega)]; omega), u8_toNat (by omega), e, ih (x / 128) (i + 1) _ rest (by omega) (by omega), pow7]
      have e3 : x * 2 ^ (7 * i) = x % 128 * 2 ^ (7 * i) + x / 128 * (128 * 2 ^ (7 * i)) := by
        rw [← Nat.mul_assoc, ← Nat.add_mul]
        congr 1
        omega
      rw [e3]
      congr 1 <;> omega
/-- With a tenth byte that has the high bit it is refused. -/
theorem vrd_cont_bad : ∀ (n x i acc : Nat) (rest : List UInt8), x ≤ n → i ≤ 9 → 10 ≤ i + (uvarint x).length → vrd i acc (vcont x ++ rest) = none := by
  intro n
  induction n with
  | zero =>
    intro x i acc rest h hi hl
    obtain rfl : x = 0 := by omega
    rw [uvarint_small (by omega)] at hl
    rw [vcont_small (by omega), List.singleton_append]
    exact vrd_bad (.inr ⟨by simp at hl; omega, by rw [u8_toNat (by omega)]; omega⟩)
  | succ n ih =>
    intro x i acc rest h hi hl
    by_cases hx : x < 128
    · rw [uvarint_small hx] at hl
      rw [vcont_small hx, List.singleton_append]
      exact vrd_bad (.inr ⟨by simp at hl; omega, by rw [u8_toNat (by omega)]; omega⟩)
    · rw [uvarint_big (by omega), List.length_cons] at hl
      rw [vcont_big (by omega), List.cons_append]
      by_cases h9 : i = 9
      · exact vrd_bad (.inr ⟨h9, by rw [u8_toNat (by omega)]; omega⟩)
      · rw [vrd_on (by omega) (by rw [u8_toNat (by omega)]; omega)]
        exact ih (x / 128) (i + 1) _ rest (by omega) (by omega) (by omega)
theorem vrd_pad : ∀ (m j acc : Nat), j ≤ 9 → vrd j acc (List.replicate m 128 ++ [0]) = if j + m ≤ 9 then some (acc, j + m + 1) else none
  | 0, j, acc, hj => by
    rw [if_pos (by omega), List.replicate_zero, List.nil_append, vrd_end (by
      rintro (h | ⟨_, h⟩)
      · omega
      · exact absurd h (by decide)) (by decide)]
    simp
  | m + 1, j, acc, hj => by
    rw [List.replicate_succ, List.cons_append]
    by_cases h9 : j = 9
    · rw [vrd_bad (.inr ⟨h9, by decide⟩), if_neg (by omega)]
    · rw [vrd_on (by rintro (h | ⟨h, _⟩) <;> omega) (by decide), vrd_pad m (j + 1) _ (by omega)]
      have e : (128 : UInt8).toNat % 128 = 0 := by decide
      rw [e, Nat.zero_mul, show j + 1 + m = j + (m + 1) by omega]
      simp only [Nat.add_zero]
def vlong (n k : Nat) : List UInt8 := if k = 0 then uvarint n else vcont n ++ (List.replicate (k - 1) 128 ++ [0])
theorem vlong_len (n k : Nat) : (vlong n k).length = (uvarint n).length + k := by
  unfold vlong
  split
  · omega
  · rw [List.length_append, vcont_len n n (Nat.le_refl _), List.length_append, List.length_replicate]; simp; omega
theorem vlong_ok (n k : Nat) (hn : n < 18446744073709551616) (h : (uvarint n).length + k ≤ 10) : vrd 0 0 (vlong n k) = some (n, (uvarint n).length + k) := by
  unfold vlong
  split
  · rename_i hk
    have := vrd_uv (x := n) [] hn
    rw [List.append_nil] at this
    rw [this, hk]; rfl
  · rw [vrd_cont n n 0 0 _ (Nat.le_refl _) (by omega), vrd_pad _ _ _ (by omega), if_pos (by omega)]
    simp; omega
theorem vlong_bad (n k : Nat) (hn : n < 18446744073709551616) (h : ¬ (uvarint n).length + k ≤ 10) : vrd 0 0 (vlong n k) = none := by
  have hl := uvarint_length64 hn
  unfold vlong
  rw [if_neg (by omega)]
  by_cases h10 : (uvarint n).length = 10
  · exact vrd_cont_bad n n 0 0 _ (Nat.le_refl _) (by omega) (by omega)
  · rw [vrd_cont n n 0 0 _ (Nat.le_refl _) (by omega), vrd_pad _ _ _ (by omega), if_neg (by omega)]
end Go.Proofs.YtgdbeiadlgkedaaDoor
