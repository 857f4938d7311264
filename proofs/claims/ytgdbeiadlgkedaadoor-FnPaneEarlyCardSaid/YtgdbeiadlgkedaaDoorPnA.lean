/- Plain: a pane's bytes, as the printed function tells them. -/
import Derived.Test.YtgdbeiadlgkedaaDoorPFnPaneEarlyy
import Derived.Lib.Varint
set_option linter.unusedVariables false
set_option linter.unusedSimpArgs false
namespace Go.Proofs.YtgdbeiadlgkedaaDoor
open Go.RowKit PFnPaneEarly
theorem or128b : ∀ d : Fin 256, Go.bits .or .u8 ((d : Nat) : Int) 128 = (((d : Nat) % 128 + 128 : Nat) : Int) := by decide +kernel
theorem sn_one (m : Nat) : strOfNums [((m : Nat) : Int)] = ⟨#[m.toUInt8]⟩ := by simp [strOfNums]
theorem le1 (s : ByteArray) (x : UInt8) (h : s.size + 1 ≤ 1000) : s.size + (⟨#[x]⟩ : ByteArray).size ≤ 9223372036854775807 := Nat.le_trans h (by decide)
theorem varint_l0 : ∀ (n v : Nat) (s : ByteArray), v ≤ n → s.size + (Lib.uvarint v).length ≤ 1000 → ∃ k, spec_CodVarint.l0 k (v : Int) s = some (s ++ ⟨(Lib.uvarint v).toArray⟩) := by
  intro n
  induction n with
  | zero =>
    intro v s hv hs
    obtain rfl : v = 0 := by omega
    refine ⟨1, ?_⟩
    rw [Lib.uvarint_small (by decide)] at hs ⊢
    rw [spec_CodVarint.l0, if_neg (by omega)]
    simp only [Option.bind_some]
    rw [show (((0 : Nat) : Int) % 256) = ((0 : Nat) : Int) by decide, sn_one]
    rw [if_pos (le1 s _ (show s.size + 1 ≤ 1000 from hs))]
  | succ n ih =>
    intro v s hv hs
    by_cases h : v < 128
    · refine ⟨1, ?_⟩
      rw [Lib.uvarint_small h] at hs ⊢
      rw [spec_CodVarint.l0, if_neg (by omega)]
      simp only [Option.bind_some]
      rw [show ((v : Int) % 256) = ((v : Nat) : Int) by omega, sn_one]
      rw [if_pos (le1 s _ (show s.size + 1 ≤ 1000 from hs))]
    · rw [Lib.uvarint_big (by omega)] at hs ⊢
      obtain ⟨k, hk⟩ := ih (v / 128) (s ++ ⟨#[(v % 128 + 128).toUInt8]⟩) (by omega) (by rw [List.length_cons] at hs; rw [ByteArray.size_append]; show s.size + 1 + _ ≤ 1000; omega)
      refine ⟨k + 1, ?_⟩
      rw [spec_CodVarint.l0, if_pos (by omega)]
      simp only [Option.bind_some]
      have e : ((v : Int) % 256) = (((⟨v % 256, by omega⟩ : Fin 256) : Nat) : Int) := by simp
      rw [e, or128b, show ((⟨v % 256, by omega⟩ : Fin 256) : Nat) % 128 + 128 = v % 128 + 128 by simp only; omega, sn_one]
      rw [if_pos (le1 s _ (show s.size + 1 ≤ 1000 by rw [List.length_cons] at hs; omega)), show ((v : Int) / 128) = ((v / 128 : Nat) : Int) by omega, hk]
      congr 1
      apply ByteArray.ext
      simp
theorem varint_some (v : Nat) (hv : v < 18446744073709551616) : ∃ k, spec_CodVarint.f k (v : Int) = some ⟨(Lib.uvarint v).toArray⟩ := by
  obtain ⟨k, hk⟩ := varint_l0 v v ⟨#[]⟩ (Nat.le_refl _) (by have := Lib.uvarint_length64 hv; simp [ByteArray.size]; omega)
  refine ⟨k, ?_⟩
  rw [spec_CodVarint.f, hk]
  congr 1
theorem varint_up (y : Int) (r : ByteArray) : ∀ d k, spec_CodVarint.f k y = some r → spec_CodVarint.f (k + d) y = some r
  | 0, _, h => h
  | d + 1, k, h => spec_CodVarint.mono y (k + d) r (varint_up y r d k h)
/-- A pane's head. -/
def phead (t : Nat) (f l : Bool) : Nat := t * 4 + (if f then 1 else 0) + (if l then 2 else 0)
theorem phead_lt {t : Nat} (h : t < 4) (f l : Bool) : phead t f l < 16 := by unfold phead; split <;> split <;> omega
theorem hd_spec : ∀ (t : Fin 4) (f l : Bool), (if l then Go.bits .or .u8 (if f then Go.bits .or .u8 ((wrap64 (((t : Nat) : Int) * 4)) % 256) 1 else (wrap64 (((t : Nat) : Int) * 4)) % 256) 2 else (if f then Go.bits .or .u8 ((wrap64 (((t : Nat) : Int) * 4)) % 256) 1 else (wrap64 (((t : Nat) : Int) * 4)) % 256)) = (phead t f l : Int) := by decide +kernel
theorem or16 : ∀ (h : Fin 16), Go.bits .or .u8 ((h : Nat) : Int) 16 = (((h : Nat) + 16 : Nat) : Int) := by decide +kernel
theorem or32 : ∀ (h : Fin 16), Go.bits .or .u8 ((h : Nat) : Int) 32 = (((h : Nat) + 32 : Nat) : Int) := by decide +kernel
def u64n (t : Int) : Nat := (t % 18446744073709551616).toNat
theorem u64n_lt (t : Int) : u64n t < 18446744073709551616 := by unfold u64n; omega
theorem u64n_wrap (t : Int) : IntKind.u64.wrap t = (u64n t : Int) := by
  unfold u64n
  simp [IntKind.wrap, IntKind.bits, IntKind.signed]
  omega
def pbytes (t : Nat) (f l : Bool) (i n : Int) : List UInt8 :=
  if (i = 0 ∧ n = 0) ∨ t = 3 then [(phead t f l).toUInt8]
  else if i = n ∨ t = 0 then (phead t f l + 16).toUInt8 :: Lib.uvarint (u64n i)
  else (phead t f l + 32).toUInt8 :: (Lib.uvarint (u64n i) ++ Lib.uvarint (u64n n))
theorem paned_some (t : Nat) (ht : t < 4) (f l : Bool) (i n : Int) : ∃ k, spec_CodPaned.f k (t : Int) f l i n = some ⟨(pbytes t f l i n).toArray⟩ := by
  obtain ⟨k1, h1⟩ := varint_some (u64n i) (u64n_lt i)
  obtain ⟨k2, h2⟩ := varint_some (u64n n) (u64n_lt n)
  have l1 := Lib.uvarint_length64 (u64n_lt i)
  have l2 := Lib.uvarint_length64 (u64n_lt n)
  have hh := hd_spec ⟨t, ht⟩ f l
  simp only at hh
  have hp := phead_lt ht f l
  have o16 := or16 ⟨phead t f l, hp⟩
  have o32 := or32 ⟨phead t f l, hp⟩
  simp only at o16 o32
  refine ⟨k1 + k2 + 4, ?_⟩
  have v1 := varint_up _ _ k2 k1 h1
  have v2 := varint_up _ _ k1 k2 h2
  rw [show k2 + k1 = k1 + k2 by omega] at v2
  have e0 : spec_CodPaned.f (k1 + k2 + 4) (t : Int) f l i n = spec_CodPaned.j1 (k1 + k2 + 3) (phead t f l : Int) (t : Int) f l i n := by
    rw [← hh, spec_CodPaned.f]
    cases f
    · rw [if_neg (by simp), spec_CodPaned.j0]
      cases l
      · rw [if_neg (by simp)]; simp only [Bool.false_eq_true, if_false]
      · rw [if_pos rfl]; simp only [Bool.false_eq_true, if_false, if_true]
    · rw [if_pos rfl, spec_CodPaned.j0]
      cases l
      · rw [if_neg (by simp)]; simp only [Bool.false_eq_true, if_false, if_true]
      · rw [if_pos rfl]; simp only [if_true]
  rw [e0]
  have e3 : ((t : Int) == 3) = decide (t = 3) := by
    rw [Bool.eq_iff_iff]; simp; omega
  have e1 : spec_CodPaned.j1 (k1 + k2 + 3) (phead t f l : Int) (t : Int) f l i n = spec_CodPaned.j2 (k1 + k2 + 2) (phead t f l : Int) (decide ((i = 0 ∧ n = 0) ∨ t = 3)) (t : Int) f l i n := by
    rw [spec_CodPaned.j1, e3]
    by_cases hi : i = 0
    · by_cases hn : n = 0
      · simp [hi, hn]
      · simp [hi, hn]
    · simp [hi]
  rw [e1, spec_CodPaned.j2]
  unfold pbytes
  by_cases c1 : (i = 0 ∧ n = 0) ∨ t = 3
  · rw [if_pos (by simpa using c1), if_pos c1, sn_one]
  · rw [if_neg (by simpa using c1), if_neg c1]
    have e4 : (if i = n then spec_CodPaned.j3 (k1 + k2 + 1) (phead t f l : Int) true (t : Int) f l i n else spec_CodPaned.j3 (k1 + k2 + 1) (phead t f l : Int) ((t : Int) == 0) (t : Int) f l i n) = spec_CodPaned.j3 (k1 + k2 + 1) (phead t f l : Int) (decide (i = n ∨ t = 0)) (t : Int) f l i n := by
      by_cases c2 : i = n
      · simp [c2]
      · rw [if_neg c2, show ((t : Int) == 0) = decide (i = n ∨ t = 0) by rw [Bool.eq_iff_iff]; simp [c2]]
    rw [e4, spec_CodPaned.j3]
    by_cases c3 : i = n ∨ t = 0
    · rw [if_pos (by simpa using c3), if_pos c3]
      simp only [Option.bind_some]
      rw [o16, sn_one, u64n_wrap, v1]
      simp only [Option.bind_some]
      rw [if_pos (by simp [ByteArray.size]; omega)]
      congr 1
    · rw [if_neg (by simpa using c3), if_neg c3]
      simp only [Option.bind_some]
      rw [o32, sn_one, u64n_wrap, u64n_wrap, v1]
      simp only [Option.bind_some]
      rw [if_pos (by simp [ByteArray.size]; omega), v2]
      simp only [Option.bind_some]
      rw [if_pos (by simp [ByteArray.size]; omega)]
      congr 1
end Go.Proofs.YtgdbeiadlgkedaaDoor
