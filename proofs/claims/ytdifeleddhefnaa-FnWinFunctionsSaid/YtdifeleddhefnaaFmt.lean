/- The text of a duration in whole milliseconds: the contract of (time.Duration).format. -/
import Derived.Test.YtdifeleddhefnaaDur
set_option linter.unusedVariables false
set_option linter.unusedSimpArgs false
namespace Go.Proofs.Ytdifeleddhefnaa
open Go.RowKit Go.Proofs.YtdifeleddhefnaaW.PrintWords

theorem dg_le2 {n : Nat} (h : n < 100) : (dg n).length ≤ 2 := by
  by_cases h1 : n < 10
  · rw [dg_small h1]; simp
  · rw [dg_big h1, dg_small (by omega)]; simp
theorem dg_le3 {n : Nat} (h : n < 1000) : (dg n).length ≤ 3 := by
  by_cases h1 : n < 10
  · rw [dg_small h1]; simp
  · rw [dg_big h1]
    have := dg_le2 (n := n / 10) (by omega)
    simp; omega
theorem fr_num (k v : Nat) (p : Bool) (t : List Int) : (fr k v p t).2.1 = v / 10 ^ k := by
  induction k generalizing v p t with
  | zero => simp [fr]
  | succ k ih => rw [fr_step, ih, Nat.div_div_eq_div_mul, Nat.pow_succ, Nat.mul_comm]
theorem fr_len (k v : Nat) (p : Bool) (t : List Int) : (fr k v p t).1.length ≤ k + t.length := by
  induction k generalizing v p t with
  | zero => simp [fr]
  | succ k ih =>
    rw [fr_step]
    refine Nat.le_trans (ih _ _ _) ?_
    split <;> simp <;> omega
/-- The bytes ahead of which the seconds stand. -/
def fracT (v : Nat) : List Int := if (fr 9 v false [115]).2.2 then 46 :: (fr 9 v false [115]).1 else (fr 9 v false [115]).1
theorem fracT_len (v : Nat) : (fracT v).length ≤ 11 := by
  have := fr_len 9 v false [115]
  unfold fracT
  split <;> simp at * <;> omega
/-- The text of a number of milliseconds. -/
def dtxt (ms : Nat) : List Int :=
  if ms = 0 then [48, 115] else if ms < 1000 then dg ms ++ [109, 115]
  else
    let a := dg (ms / 1000 % 60) ++ fracT (ms * 1000000)
    if ms / 1000 / 60 = 0 then a
    else
      let b := dg (ms / 1000 / 60 % 60) ++ 109 :: a
      if ms / 1000 / 60 / 60 = 0 then b else dg (ms / 1000 / 60 / 60) ++ 104 :: b
theorem frz (k v : Nat) (t : List Int) : fr k (v * 10 ^ k) false t = (t, v, false) := by
  induction k with
  | zero => simp [fr]
  | succ k ih =>
    have e1 : v * 10 ^ (k + 1) % 10 = 0 := by rw [Nat.pow_succ, ← Nat.mul_assoc]; exact Nat.mul_mod_left _ _
    have e2 : v * 10 ^ (k + 1) / 10 = v * 10 ^ k := by rw [Nat.pow_succ, ← Nat.mul_assoc]; exact Nat.mul_div_cancel _ (by decide)
    rw [fr_step, e1, e2]
    exact ih
theorem fmtInt_at (g m c v : Nat) (t : List Int) (w : World) (hv2 : v < 18446744073709551616) (h : Tl w g m t) (hL : (dg v).length ≤ m) (hc : m ≤ c) :
    Calls Try.prog 96 #[.slice (some ⟨g, 0, none⟩) m c, .int .u64 v] w fun e w' => ∃ n : Nat, n + (dg v).length = m ∧ e = .returned (.int .i64 n) ∧ Tl w' g n (dg v ++ t) ∧ Only g w w' := by
  obtain ⟨n, rfl⟩ : ∃ n, m = n + (dg v).length := ⟨m - (dg v).length, by omega⟩
  exact (fmtInt_any g n c v t w hv2 h hc).mono fun e w' ⟨a, b, d⟩ => ⟨n, rfl, a, b, d⟩
theorem Tl.len {w : World} {g n : Nat} {t : List Int} (h : Tl w g n t) : n + t.length = 32 := by obtain ⟨a, _, _, _, h4, _⟩ := h; exact h4
set_option maxRecDepth 100000 in
set_option maxHeartbeats 4000000 in
theorem format_0 (g : Nat) (w : World) (h : Tl w g 32 []) :
    Calls Try.prog 94 #[.int .i64 0, .pointer (some ⟨g, 0, none⟩)] w fun e w' => ∃ k : Nat, e = .returned (.int .i64 k) ∧ Tl w' g k [48, 115] ∧ Only g w w' := by
  have H1 := Aside0.mk (Tl.push (n := 31) h 115)
  obtain ⟨x, hx, hf⟩ := Tl.cell h 31 (by decide)
  obtain ⟨y, hy, hg⟩ := H1.out.cell 30 (by decide)
  have HO := Aside0.mk (((Only.refl g w).set 31 (.int .u8 115)).set 30 (.int .u8 48))
  clear h
  go_enter Try.func94, Try.ntmps94
  go_wp2
  go_ret
  exact ⟨30, rfl, Tl.push (n := 30) H1.out 48, HO.out⟩
set_option maxRecDepth 100000 in
set_option maxHeartbeats 4000000 in
theorem format_1 (g ms : Nat) (h0 : 0 < ms) (h1 : ms < 1000) (w : World) (h : Tl w g 32 []) :
    Calls Try.prog 94 #[.int .i64 ((ms * 1000000 : Nat) : Int), .pointer (some ⟨g, 0, none⟩)] w fun e w' => ∃ k : Nat, e = .returned (.int .i64 k) ∧ Tl w' g k (dg ms ++ [109, 115]) ∧ Only g w w' := by
  obtain ⟨u, hu⟩ : ∃ u, u = ms * 1000000 := ⟨_, rfl⟩
  rw [← hu]
  have H1 := Aside0.mk (Tl.push (n := 31) h 115)
  obtain ⟨x, hx, hf⟩ := Tl.cell h 31 (by decide)
  obtain ⟨y, hy, hg⟩ := H1.out.cell 30 (by decide)
  have H2 := Aside0.mk (Tl.push (n := 30) H1.out 109)
  have HO := Aside0.mk (((Only.refl g w).set 31 (.int .u8 115)).set 30 (.int .u8 109))
  have HF := Aside0.mk (show fr 6 u false [109, 115] = ([109, 115], ms, false) by rw [hu]; exact frz 6 ms _)
  have HL := Aside0.mk (dg_le3 h1)
  obtain ⟨z, hz⟩ : ∃ z : Int, z = (u : Int) := ⟨_, rfl⟩
  rw [← hz]
  have q1 : 1000000 ≤ z := by omega
  have q2 : z < 1000000000 := by omega
  have q3 : (z == 0) = false := beq_eq_false_iff_ne.mpr (by omega)
  have H0 := Aside0.mk (And.intro h0 h1)
  have HZ := Aside0.mk hz
  have HU := Aside0.mk (show u < 18446744073709551616 by omega)
  clear h hu h0 h1 hz
  go_enter Try.func94, Try.ntmps94
  go_wp2_with (first
    | (go_at_call 95; rw [HZ.out]; refine (fmtFrac_any g 30 32 u 6 [109, 115] _ HU.out (by decide) (by decide) (by decide) H2.out).mono ?_; rintro e_ w1 ⟨k1, rfl, hT, hO⟩; rw [HF.out] at hT; have hk1 : k1 = 30 := by have := hT.len; simp at this; omega
       subst hk1; rw [HF.out]; have HT := Aside0.mk hT; have HO1 := Aside0.mk (HO.out.trans hO); clear hT hO)
    | (go_at_call 96; refine (fmtInt_at g 30 32 ms [109, 115] _ (by have := H0.out.2; omega) HT.out (by have := HL.out; omega) (by decide)).mono ?_; rintro e_ w2 ⟨n, hn, rfl, hT, hO⟩; have HT2 := Aside0.mk hT; have HO2 := Aside0.mk (HO1.out.trans hO); have HNN := Aside0.mk hn; clear hT hO hn))
  go_ret
  exact ⟨n, rfl, HT2.out, HO2.out⟩
end Go.Proofs.Ytdifeleddhefnaa
