/- Plain laws on the windows of a time. -/
import Derived.Test.YtdifeleddhefnaaLawW
import Derived.Test.YtdifeleddhefnaaMx
set_option linter.unusedVariables false
set_option linter.unusedSimpArgs false
namespace Go.Proofs.Ytdifeleddhefnaa
open Go.RowKit Go.Proofs.YtdifeleddhefnaaW.PrintWords

theorem slid_length {p sz lo : Int} (hp : 1 ≤ p) : ∀ (n : Nat) (st : Int), st - lo ≤ n → ((slid p sz lo n st).length : Int) = if lo < st then (st - lo - 1) / p + 1 else 0
  | 0, st, h => by
    have h' : ¬ lo < st := by simp at h; omega
    rw [if_neg h']; rfl
  | n + 1, st, h => by
    by_cases hl : lo < st
    · rw [if_pos hl, slid_yes hl, List.length_cons]
      have ih := slid_length (sz := sz) (lo := lo) hp n (st - p) (by push_cast at h; omega)
      push_cast
      rw [ih]
      by_cases h2 : lo < st - p
      · rw [if_pos h2]
        have e : (st - lo - 1) / p = (st - p - lo - 1) / p + 1 := by
          rw [show st - lo - 1 = (st - p - lo - 1) + p * 1 by omega, Int.add_mul_ediv_left _ _ (by omega)]
        omega
      · rw [if_neg h2]
        have e : (st - lo - 1) / p = 0 := Int.ediv_eq_zero_of_lt (by omega) (by omega)
        omega
    · rw [if_neg hl, slid_no hl]; rfl
theorem ediv_neg1 {a p : Int} (h1 : -p ≤ a) (h2 : a < 0) : a / p = -1 := by
  have : (a + p * 1) / p = a / p + 1 := Int.add_mul_ediv_left _ _ (by omega)
  have h3 : (a + p * 1) / p = 0 := Int.ediv_eq_zero_of_lt (by omega) (by omega)
  omega
/-- How many sliding windows have a time. -/
theorem slid_count {p sz t : Int} (hp : 1 ≤ p) (hs : 1 ≤ sz) :
    ((slid p sz (t - sz) sz.toNat (t - t % p)).length : Int) = sz / p ∨ ((slid p sz (t - sz) sz.toNat (t - t % p)).length : Int) = sz / p + 1 ∧ sz % p ≠ 0 := by
  have r0 := Int.emod_nonneg t (show p ≠ 0 by omega)
  have r1 := Int.emod_lt_of_pos t (show 0 < p by omega)
  have s0 := Int.emod_nonneg sz (show p ≠ 0 by omega)
  have s1 := Int.emod_lt_of_pos sz (show 0 < p by omega)
  have sq := Int.emod_add_mul_ediv sz p
  rw [slid_length hp _ _ (by omega)]
  generalize t % p = r at *
  generalize hs' : sz % p = s at *
  generalize hq' : sz / p = q at *
  split
  · rename_i h
    have e : (t - r - (t - sz) - 1) / p = (s - r - 1) / p + q := by
      rw [show t - r - (t - sz) - 1 = (s - r - 1) + p * q by omega, Int.add_mul_ediv_left _ _ (by omega)]
    rw [e]
    by_cases h2 : s - r - 1 < 0
    · rw [ediv_neg1 (by omega) h2]; left; omega
    · rw [Int.ediv_eq_zero_of_lt (by omega) (by omega)]; right; omega
  · rename_i h
    left
    have : sz < p := by omega
    have : sz / p = 0 := Int.ediv_eq_zero_of_lt (by omega) this
    omega
def sh (d : Int) (x : Sp) : Sp := ⟨x.g, x.s + d, x.e + d⟩
theorem slid_shift {p sz lo d : Int} : ∀ (n : Nat) (st : Int), slid p sz (lo + d) n (st + d) = (slid p sz lo n st).map (sh d)
  | 0, st => rfl
  | n + 1, st => by
    by_cases h : lo < st
    · rw [slid_yes h, slid_yes (by omega), List.map_cons, ← slid_shift n (st - p)]
      simp only [sh]
      rw [show st + d - p = st - p + d by omega, show st + d + sz = st + sz + d by omega]
    · rw [slid_no h, slid_no (by omega)]; rfl
theorem slid_has {p sz lo hi : Int} (hp : 1 ≤ p) : ∀ (n : Nat) (st : Int), st ≤ hi → ∀ x ∈ slid p sz lo n st, x.g = false ∧ x.s ≤ hi ∧ lo + sz < x.e ∧ x.e = x.s + sz
  | 0, st, _, x, hx => by cases hx
  | n + 1, st, h, x, hx => by
    by_cases hl : lo < st
    · rw [slid_yes hl] at hx
      rcases List.mem_cons.1 hx with rfl | hx
      · exact ⟨rfl, h, by show lo + sz < st + sz; omega, rfl⟩
      · exact slid_has hp n (st - p) (by omega) x hx
    · rw [slid_no hl] at hx; cases hx
theorem fxs_apart {sz a b : Int} (h : 1 ≤ sz) (hab : a ≤ b) : fxs sz a = fxs sz b ∨ fxs sz a + sz ≤ fxs sz b := by
  unfold fxs
  have r0 := Int.emod_nonneg a (show sz ≠ 0 by omega)
  have r1 := Int.emod_lt_of_pos a (show 0 < sz by omega)
  have s0 := Int.emod_nonneg b (show sz ≠ 0 by omega)
  have s1 := Int.emod_lt_of_pos b (show 0 < sz by omega)
  have ea := Int.emod_add_mul_ediv a sz
  have eb := Int.emod_add_mul_ediv b sz
  have : a / sz ≤ b / sz := Int.ediv_le_ediv (by omega) hab
  generalize a / sz = q at *
  generalize b / sz = r at *
  generalize a % sz = x at *
  generalize b % sz = y at *
  rcases Int.lt_or_eq_of_le this with h2 | rfl
  · right
    have : sz * (q + 1) ≤ sz * r := Int.mul_le_mul_of_nonneg_left (by omega) (by omega)
    rw [Int.mul_add] at this
    omega
  · left; omega
theorem placed_one {f : WF} {t : Int} (h : f.k ≠ 2) : (placed f t).length = 1 := by
  unfold placed
  rw [if_neg h]
  split
  · rfl
  · split <;> rfl
theorem placed_count {f : WF} {t : Int} (h : FT f t) (hk : f.k = 2) : (((placed f t).length : Nat) : Int) = f.sz / f.pd ∨ (((placed f t).length : Nat) : Int) = f.sz / f.pd + 1 ∧ f.sz % f.pd ≠ 0 := by
  unfold placed
  rw [if_neg (by omega), if_pos hk]
  exact slid_count (h.f2 hk).2.1 (h.f2 hk).1
theorem placed_has {f : WF} {t : Int} (h : FT f t) (h0 : 0 ≤ t) (hg : f.k = 3 → 1 ≤ f.gp) : ∀ x ∈ placed f t, (x.g = true ∨ x.s ≤ t) ∧ t ≤ lst x ∧ 0 ≤ x.e ∧ x.e ≤ 1000000000000000 := by
  obtain ⟨⟨s0, s1⟩, ⟨p0, p1⟩, ⟨g0, g1⟩, f1, f2, f3, t1⟩ := h
  intro x hx
  unfold placed at hx
  by_cases k1 : f.k = 1
  · rw [if_pos k1] at hx
    obtain rfl := List.mem_singleton.1 hx
    have := fxs_bd (t := t) (f1 k1).1
    refine ⟨.inr this.2, ?_, ?_, ?_⟩
    · show t ≤ (if false = true then _ else fxs f.sz t + f.sz - 1)
      rw [if_neg (by decide)]; omega
    · show 0 ≤ fxs f.sz t + f.sz; omega
    · show fxs f.sz t + f.sz ≤ _; omega
  · rw [if_neg k1] at hx
    by_cases k2 : f.k = 2
    · rw [if_pos k2] at hx
      have r0 := Int.emod_nonneg t (show f.pd ≠ 0 by have := f2 k2; omega)
      obtain ⟨hg, hs, he, hes⟩ := slid_has (hi := t) (f2 k2).2.1 _ _ (by omega) x hx
      refine ⟨.inr hs, ?_, by omega, by omega⟩
      unfold lst
      rw [hg, if_neg (by decide)]; omega
    · rw [if_neg k2] at hx
      by_cases k3 : f.k = 3
      · rw [if_pos k3] at hx
        obtain rfl := List.mem_singleton.1 hx
        have hg := hg k3
        refine ⟨.inr (Int.le_refl _), ?_, ?_, ?_⟩
        · show t ≤ (if false = true then _ else t + f.gp - 1)
          rw [if_neg (by decide)]; omega
        · show 0 ≤ t + f.gp; omega
        · show t + f.gp ≤ _; omega
      · rw [if_neg k3] at hx
        obtain rfl := List.mem_singleton.1 hx
        refine ⟨.inl rfl, ?_, by decide, by decide⟩
        show t ≤ (if true = true then 9223371950454775 else _)
        rw [if_pos rfl]; omega
theorem fxs_shift {sz t n : Int} : fxs sz (t + n * sz) = fxs sz t + n * sz := by
  unfold fxs
  rw [Int.add_mul_emod_self_right]; omega
theorem placed_shift {f : WF} {t n : Int} (h0 : f.k ≠ 0) (h3 : f.k ≤ 3) (hk : 0 ≤ f.k) (hg : f.k ≠ 3 → f.gp = 0) (hp : f.k ≠ 2 → f.pd = 0) : placed f (t + n * (if f.k = 3 then 1 else if f.k = 1 then f.sz else f.pd)) = (placed f t).map (sh (n * (if f.k = 3 then 1 else if f.k = 1 then f.sz else f.pd))) := by
  unfold placed
  rcases (show f.k = 1 ∨ f.k = 2 ∨ f.k = 3 by omega) with k | k | k
  · simp only [k, if_neg (show ¬ (1 : Int) = 3 by decide), if_true, List.map_cons, List.map_nil, sh, fxs_shift]
    rw [show fxs f.sz t + n * f.sz + f.sz = fxs f.sz t + f.sz + n * f.sz by omega]
  · simp only [k, if_neg (show ¬ (2 : Int) = 3 by decide), if_neg (show ¬ (2 : Int) = 1 by decide), if_true]
    rw [← slid_shift, Int.add_mul_emod_self_right, show t + n * f.pd - f.sz = t - f.sz + n * f.pd by omega, show t + n * f.pd - t % f.pd = t - t % f.pd + n * f.pd by omega]
  · simp only [k, if_true, if_neg (show ¬ (3 : Int) = 1 by decide), if_neg (show ¬ (3 : Int) = 2 by decide), List.map_cons, List.map_nil, sh]
    rw [show t + n * 1 + f.gp = t + f.gp + n * 1 by omega]
theorem rdSp_mem {l : List Sp} {k : Nat} (h : k < l.length) : rdSp l k ∈ l := by
  unfold rdSp; rw [List.getD_eq_getElem?_getD, List.getElem?_eq_getElem h]; exact List.getElem_mem h
theorem isF_gap {k sz pd gp : Int} (h : isF ⟨k, sz, pd, gp⟩ = true) : k ≤ 3 ∧ (k = 3 → 1 ≤ gp) ∧ (k ≠ 3 → gp = 0) ∧ (k ≠ 2 → pd = 0) := by
  simp only [isF, Bool.and_eq_true, decide_eq_true_eq] at h
  obtain ⟨h3, hs, hp, hg, hd⟩ := h
  refine ⟨h3, fun e => in9_pos hg (by simp [e]), fun e => ?_, fun e => ?_⟩
  · have : (k == 3) = false := by simp [e]
    rw [this] at hg; simpa [in9] using hg
  · have : (k == 2) = false := by simp [e]
    rw [this] at hp; simpa [in9] using hp
end Go.Proofs.Ytdifeleddhefnaa
