/- Plain laws on numbers and bytes: numbers by sevens of bits, numbers with the high byte first. -/
import Derived.Lib.Varint
import Derived.Lib.EndianMore
import Derived.Lib.Buffer
namespace Go.Proofs.YtgdbeiadlgkedaaDoor
open Go.Lib

/-- The number that stands at the beginning of bytes by sevens of bits, and where it ends. -/
def vrd : Nat → Nat → List UInt8 → Option (Nat × Nat)
  | _, _, [] => none
  | i, acc, c :: r =>
    if 9 < i ∨ (i = 9 ∧ 1 < c.toNat) then none
    else if c.toNat < 128 then some (acc + c.toNat * 2 ^ (7 * i), i + 1)
    else vrd (i + 1) (acc + (c.toNat % 128) * 2 ^ (7 * i)) r
theorem vrd_nil (i acc : Nat) : vrd i acc [] = none := rfl
theorem vrd_bad {i acc : Nat} {c : UInt8} {r : List UInt8} (h : 9 < i ∨ (i = 9 ∧ 1 < c.toNat)) : vrd i acc (c :: r) = none := by rw [vrd, if_pos h]
theorem vrd_end {i acc : Nat} {c : UInt8} {r : List UInt8} (h : ¬ (9 < i ∨ (i = 9 ∧ 1 < c.toNat))) (h1 : c.toNat < 128) : vrd i acc (c :: r) = some (acc + c.toNat * 2 ^ (7 * i), i + 1) := by rw [vrd, if_neg h, if_pos h1]
theorem vrd_on {i acc : Nat} {c : UInt8} {r : List UInt8} (h : ¬ (9 < i ∨ (i = 9 ∧ 1 < c.toNat))) (h1 : ¬ c.toNat < 128) : vrd i acc (c :: r) = vrd (i + 1) (acc + (c.toNat % 128) * 2 ^ (7 * i)) r := by rw [vrd, if_neg h, if_neg h1]
theorem pow7 (i : Nat) : 2 ^ (7 * (i + 1)) = 128 * 2 ^ (7 * i) := by rw [Nat.mul_add, Nat.pow_add]; omega
theorem vrd_facts : ∀ (l : List UInt8) (i acc v k : Nat), acc < 2 ^ (7 * i) → vrd i acc l = some (v, k) → v < 18446744073709551616 ∧ i < k ∧ k ≤ i + l.length ∧ k ≤ 10
  | [], _, _, _, _, _, h => by simp [vrd] at h
  | c :: r, i, acc, v, k, ha, h => by
    by_cases hb : 9 < i ∨ (i = 9 ∧ 1 < c.toNat)
    · rw [vrd_bad hb] at h; cases h
    · have hc := c.toNat_lt
      by_cases h1 : c.toNat < 128
      · rw [vrd_end hb h1] at h
        simp only [Option.some.injEq, Prod.mk.injEq] at h
        obtain ⟨rfl, rfl⟩ := h
        refine ⟨?_, by omega, by simp only [List.length_cons]; omega, by omega⟩
        by_cases h9 : i = 9
        · subst h9
          have : c.toNat ≤ 1 := by omega
          have e : 2 ^ (7 * 9) = 9223372036854775808 := by decide
          rw [e] at ha ⊢
          have : c.toNat * 9223372036854775808 ≤ 1 * 9223372036854775808 := Nat.mul_le_mul_right _ this
          omega
        · have hi : i ≤ 8 := by omega
          have h2 : 2 ^ (7 * (i + 1)) ≤ 2 ^ (7 * 9) := Nat.pow_le_pow_right (by omega) (by omega)
          rw [pow7] at h2
          have e : 2 ^ (7 * 9) = 9223372036854775808 := by decide
          rw [e] at h2
          have : c.toNat * 2 ^ (7 * i) ≤ 127 * 2 ^ (7 * i) := Nat.mul_le_mul_right _ (by omega)
          omega
      · rw [vrd_on hb h1] at h
        have ha' : acc + (c.toNat % 128) * 2 ^ (7 * i) < 2 ^ (7 * (i + 1)) := by
          rw [pow7]
          have : c.toNat % 128 * 2 ^ (7 * i) ≤ 127 * 2 ^ (7 * i) := Nat.mul_le_mul_right _ (by omega)
          omega
        obtain ⟨p1, p2, p3, p4⟩ := vrd_facts r (i + 1) _ v k ha' h
        exact ⟨p1, by omega, by simp only [List.length_cons]; omega, p4⟩
theorem u8_toNat {x : Nat} (h : x < 256) : x.toUInt8.toNat = x := by simp [Nat.toUInt8, UInt8.toNat_ofNat']; omega
theorem vrd_uvarint : ∀ (n x i acc : Nat) (rest : List UInt8), x ≤ n → i ≤ 9 → x < 2 ^ (64 - 7 * i) → vrd i acc (uvarint x ++ rest) = some (acc + x * 2 ^ (7 * i), i + (uvarint x).length) := by
  intro n
  induction n with
  | zero =>
    intro x i acc rest hx hi hb
    obtain rfl : x = 0 := by omega
    rw [uvarint_small (by omega), List.singleton_append, vrd_end (by simp [Nat.toUInt8]; omega) (by simp [Nat.toUInt8])]
    simp [Nat.toUInt8]
  | succ n ih =>
    intro x i acc rest hx hi hb
    by_cases h : x < 128
    · have e : x.toUInt8.toNat = x := u8_toNat (by omega)
      rw [uvarint_small h, List.singleton_append, vrd_end (by
        rw [e]; rintro (h9 | ⟨h9, h2⟩)
        · omega
        · subst h9; simp at hb; omega) (by rw [e]; exact h), e]
      rfl
    · have e : (x % 128 + 128).toUInt8.toNat = x % 128 + 128 := u8_toNat (by omega)
      have hi8 : i ≤ 8 := by
        rcases Nat.lt_or_ge i 9 with h9 | h9
        · omega
        · obtain rfl : i = 9 := by omega
          simp at hb; omega
      have hs : 2 ^ (64 - 7 * i) = 128 * 2 ^ (64 - 7 * (i + 1)) := by
        have : 64 - 7 * i = 7 + (64 - 7 * (i + 1)) := by omega
        rw [this, Nat.pow_add]
      rw [uvarint_big (by omega), List.cons_append, vrd_on (by omega) (by omega), e, ih (x / 128) (i + 1) _ rest (by omega) (by omega) (by
        rw [hs] at hb; exact Nat.div_lt_of_lt_mul hb)]
      have e2 : (x % 128 + 128) % 128 = x % 128 := by omega
      rw [e2, List.length_cons, pow7]
      have e3 : x * 2 ^ (7 * i) = x % 128 * 2 ^ (7 * i) + x / 128 * (128 * 2 ^ (7 * i)) := by
        rw [← Nat.mul_assoc, ← Nat.add_mul]
        congr 1
        omega
      rw [e3]
      congr 2 <;> omega
theorem vrd_uv {x : Nat} (rest : List UInt8) (h : x < 18446744073709551616) : vrd 0 0 (uvarint x ++ rest) = some (x, (uvarint x).length) := by
  rw [vrd_uvarint x x 0 0 rest (Nat.le_refl _) (by omega) (by simpa using h)]; simp
/-- Cut short, there is no number. -/
theorem vrd_cut : ∀ (n x i acc j : Nat), x ≤ n → j < (uvarint x).length → vrd i acc ((uvarint x).take j) = none := by
  intro n
  induction n with
  | zero =>
    intro x i acc j hx hj
    obtain rfl : x = 0 := by omega
    rw [uvarint_small (by omega)] at hj ⊢
    obtain rfl : j = 0 := by simpa using hj
    rfl
  | succ n ih =>
    intro x i acc j hx hj
    cases j with
    | zero => rfl
    | succ j =>
      by_cases h : x < 128
      · rw [uvarint_small h] at hj; simp at hj
      · have e : (x % 128 + 128).toUInt8.toNat = x % 128 + 128 := u8_toNat (by omega)
        rw [uvarint_big (by omega)] at hj ⊢
        rw [List.take_succ_cons]
        by_cases hb : 9 < i ∨ (i = 9 ∧ 1 < (x % 128 + 128).toUInt8.toNat)
        · exact vrd_bad hb
        · rw [vrd_on hb (by omega)]
          exact ih (x / 128) _ _ j (by omega) (by simpa using hj)
/-- What stands behind the number does not matter. -/
theorem vrd_more : ∀ (l r : List UInt8) (i acc v k : Nat), vrd i acc l = some (v, k) → vrd i acc (l ++ r) = some (v, k)
  | [], _, _, _, _, _, h => by simp [vrd] at h
  | c :: l, r, i, acc, v, k, h => by
    rw [List.cons_append]
    by_cases hb : 9 < i ∨ (i = 9 ∧ 1 < c.toNat)
    · rw [vrd_bad hb] at h; cases h
    · by_cases h1 : c.toNat < 128
      · rw [vrd_end hb h1] at h ⊢; exact h
      · rw [vrd_on hb h1] at h ⊢; exact vrd_more l r _ _ v k h
end Go.Proofs.YtgdbeiadlgkedaaDoor
