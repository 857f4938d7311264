/- Plain laws: the order of bytes, and of the numbers that they spell. -/
import Derived.Test.YtgdbeiadlgkedaaDoorPl
import GoSem.Op.String
namespace Go.Proofs.YtgdbeiadlgkedaaDoor
open Go.Lib

theorem be_mono : ∀ (x y : List UInt8) (p q : Nat), x.length = y.length → p < q → beFrom p x < beFrom q y
  | [], [], _, _, _, h => h
  | a :: x, b :: y, p, q, hl, h => by
    simp only [beFrom]
    have ha := a.toNat_lt
    exact be_mono x y _ _ (by simpa using hl) (by omega)
  | [], _ :: _, _, _, hl, _ => by simp at hl
  | _ :: _, [], _, _, hl, _ => by simp at hl
theorem bytesLess_be : ∀ (x y : List UInt8) (p : Nat), x.length = y.length → Op.bytesLess x y = decide (beFrom p x < beFrom p y)
  | [], [], _, _ => by simp [Op.bytesLess]
  | a :: x, b :: y, p, hl => by
    have hl' : x.length = y.length := by simpa using hl
    simp only [beFrom, Op.bytesLess]
    by_cases h : a < b
    · have h1 : a.toNat < b.toNat := h
      have := be_mono x y (p * 256 + a.toNat) (p * 256 + b.toNat) hl' (by omega)
      simp [h, this]
    · by_cases e : a = b
      · subst e
        have := bytesLess_be x y (p * 256 + a.toNat) hl'
        simp [this]
        exact decide_eq_decide.2 Iff.rfl
      · have h1 : b.toNat < a.toNat := by
          have h2 : ¬ a.toNat < b.toNat := h
          have h3 : a.toNat ≠ b.toNat := fun q => e (UInt8.toNat_inj.1 q)
          omega
        have := be_mono y x (p * 256 + b.toNat) (p * 256 + a.toNat) hl'.symm (by omega)
        have h4 : ¬ beFrom (p * 256 + a.toNat) x < beFrom (p * 256 + b.toNat) y := by omega
        simp [h, e, h4]
  | [], _ :: _, _, hl => by simp at hl
  | _ :: _, [], _, hl => by simp at hl
theorem less_beBytes (k x y : Nat) (hx : x < 256 ^ k) (hy : y < 256 ^ k) : Op.bytesLess (beBytes k x) (beBytes k y) = decide (x < y) := by
  rw [bytesLess_be _ _ 0 (by rw [beBytes_length, beBytes_length])]
  have h1 := beNat_beBytes k x hx
  have h2 := beNat_beBytes k y hy
  unfold beNat at h1 h2
  rw [h1, h2]
theorem beBytes_inj {k x y : Nat} (hx : x < 256 ^ k) (hy : y < 256 ^ k) (h : beBytes k x = beBytes k y) : x = y := by
  rw [← beNat_beBytes k x hx, ← beNat_beBytes k y hy, h]
end Go.Proofs.YtgdbeiadlgkedaaDoor
