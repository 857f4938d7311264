/- Plain: the decimal digits, as the printed functions tell them, are the library's numeral. -/
import Derived.Test.YtdifeleddhefnaaDoorPFnWinLasty
import Derived.Lib.ItoaNum
set_option linter.unusedVariables false
set_option linter.unusedSimpArgs false
namespace Go.Proofs.YtdifeleddhefnaaDoor
open Go.RowKit PFnWinLast
theorem digits_up (y : Int) (r : ByteArray) : ∀ d k, spec_winDigits.f k y = some r → spec_winDigits.f (k + d) y = some r
  | 0, _, h => h
  | d + 1, k, h => spec_winDigits.mono y (k + d) r (digits_up y r d k h)
theorem wrap_in {n : Int} (h0 : -9223372036854775808 ≤ n) (h1 : n ≤ 9223372036854775807) : wrap64 n = n := by unfold wrap64; omega
theorem dig_one (u : Nat) (h : u < 10) : strOfNums [(wrap64 (48 + (u : Int))) % 256] = ⟨(Lib.decDigits u).toArray⟩ := by
  rw [wrap_in (by omega) (by omega), Lib.decDigits, dif_pos h]
  have e : ((48 + (u : Int)) % 256).toNat = 48 + u := by omega
  simp [strOfNums, e]
theorem dec_len (u : Nat) : ∀ m, u < 10 ^ m → 0 < m → (Lib.decDigits u).length ≤ m := by
  intro m
  induction m generalizing u with
  | zero => intro _ h; omega
  | succ m ih =>
    intro h _
    rw [Lib.decDigits]
    split
    · simp
    · rename_i hu
      have hm : 0 < m := by
        rcases Nat.eq_zero_or_pos m with rfl | h'
        · simp at h; omega
        · exact h'
      have := ih (u / 10) (by rw [Nat.pow_succ] at h; omega) hm
      simp; omega
theorem dec_le (u : Nat) (h : u ≤ 9223372036854775808) : (Lib.decDigits u).length ≤ 20 := dec_len u 20 (by omega) (by decide)
theorem digits_dec : ∀ (n u : Nat), u ≤ n → u ≤ 9223372036854775807 → ∃ k, spec_winDigits.f k (u : Int) = some ⟨(Lib.decDigits u).toArray⟩ := by
  intro n
  induction n with
  | zero =>
    intro u hu _
    obtain rfl : u = 0 := by omega
    exact ⟨1, by rw [spec_winDigits.f, if_pos (by omega), dig_one 0 (by omega)]⟩
  | succ n ih =>
    intro u hu hm
    by_cases h : u < 10
    · exact ⟨1, by rw [spec_winDigits.f, if_pos (by omega), dig_one u h]⟩
    · obtain ⟨k1, h1⟩ := ih (u / 10) (by omega) (by omega)
      have h2 : spec_winDigits.f 1 ((u % 10 : Nat) : Int) = some ⟨(Lib.decDigits (u % 10)).toArray⟩ := by rw [spec_winDigits.f, if_pos (by omega), dig_one (u % 10) (by omega)]
      refine ⟨k1 + 1 + 1, ?_⟩
      have e1 : wrap64 (Int.tdiv (u : Int) 10) = ((u / 10 : Nat) : Int) := by
        rw [Int.tdiv_eq_ediv_of_nonneg (by omega), wrap_in (by omega) (by omega)]
        omega
      have e2 : Int.tmod (u : Int) 10 = ((u % 10 : Nat) : Int) := by
        rw [Int.tmod_eq_emod_of_nonneg (by omega)]
        omega
      rw [spec_winDigits.f, if_neg (by omega), e1, e2, digits_up _ _ 1 k1 h1, show k1 + 1 = 1 + k1 by omega, digits_up _ _ k1 1 h2]
      have l1 := dec_le (u / 10) (by omega)
      have l2 := dec_le (u % 10) (by omega)
      simp only [Option.bind_some]
      rw [if_pos (by simp [ByteArray.size]; omega)]
      congr 1
      rw [show Lib.decDigits u = Lib.decDigits (u / 10) ++ [UInt8.ofNat (48 + u % 10)] by rw [Lib.decDigits, dif_neg h]]
      rw [show Lib.decDigits (u % 10) = [UInt8.ofNat (48 + u % 10)] by rw [Lib.decDigits, dif_pos (by omega)]]
      apply ByteArray.ext
      simp
/-- The text of a time. -/
def tt (t : Int) : ByteArray := if t = -9223372036854775 then ⟨#[45, 105, 110, 102]⟩ else if t = 9223372036854775 then ⟨#[43, 105, 110, 102]⟩ else if t = 9223371950454775 then ⟨#[103, 108, 111]⟩ else ⟨(Lib.itoa t).toArray⟩
theorem timeText_some (t : Int) (h0 : -9223372036854775 ≤ t) (h1 : t ≤ 9223372036854775) : ∃ k, spec_WinTimeText.f k t = some (tt t) := by
  unfold tt
  by_cases e1 : t = -9223372036854775
  · exact ⟨0, by rw [spec_WinTimeText.f, if_pos e1, if_pos e1]⟩
  by_cases e2 : t = 9223372036854775
  · exact ⟨0, by rw [spec_WinTimeText.f, if_neg e1, if_pos e2, if_neg e1, if_pos e2]⟩
  by_cases e3 : t = 9223371950454775
  · exact ⟨0, by rw [spec_WinTimeText.f, if_neg e1, if_neg e2, if_pos e3, if_neg e1, if_neg e2, if_pos e3]⟩
  by_cases hn : t < 0
  · obtain ⟨k, hk⟩ := digits_dec t.natAbs t.natAbs (Nat.le_refl _) (by omega)
    refine ⟨k, ?_⟩
    have e : wrap64 (-t) = (t.natAbs : Int) := by rw [wrap_in (by omega) (by omega)]; omega
    rw [spec_WinTimeText.f, if_neg e1, if_neg e2, if_neg e3, if_pos hn, e, hk, if_neg e1, if_neg e2, if_neg e3]
    have l1 := dec_le t.natAbs (by omega)
    simp only [Option.bind_some]
    rw [if_pos (by simp [ByteArray.size]; omega)]
    congr 1
    rw [Lib.itoa, if_pos hn]
    apply ByteArray.ext
    simp
  · obtain ⟨k, hk⟩ := digits_dec t.toNat t.toNat (Nat.le_refl _) (by omega)
    refine ⟨k, ?_⟩
    have e : t = (t.toNat : Int) := by omega
    rw [← e] at hk
    rw [spec_WinTimeText.f, if_neg e1, if_neg e2, if_neg e3, if_neg hn, hk, if_neg e1, if_neg e2, if_neg e3, Lib.itoa, if_neg hn]
    rfl
theorem tt_len (t : Int) (h0 : -9223372036854775 ≤ t) (h1 : t ≤ 9223372036854775) : (tt t).size ≤ 100 := by
  unfold tt
  split
  · decide
  split
  · decide
  split
  · decide
  · rw [Lib.itoa]
    split
    · have := dec_le t.natAbs (by omega); simp [ByteArray.size]; omega
    · have := dec_le t.toNat (by omega); simp [ByteArray.size]; omega
end Go.Proofs.YtdifeleddhefnaaDoor
