/- Plain laws: which steps a statement speaks of; that equal lists are told to be the same. -/
import Derived.Test.YtoigekmdicepnaaSg
set_option linter.unusedVariables false
set_option linter.unusedSimpArgs false
namespace Go.Proofs.Ytoigekmdicepnaa
open Go.RowKit Go.Proofs.YtoigekmdicepnaaW.PrintWords
open PFnMapState (S26 k26 S36 k36 z26 z36 laws_areSteps.l0 laws_areSteps.l1 laws_areSteps.f rd_T26)

theorem wrap_nat {n : Nat} (h : n ≤ 3000000000) : wrap64 (n : Int) = (n : Int) := by unfold wrap64; omega
theorem wrap_succ {n : Nat} (h : n ≤ 3000000000) : wrap64 ((n : Int) + 1) = ((n + 1 : Nat) : Int) := by unfold wrap64; omega
/-- A step of one of the kinds, within the bounds. -/
def okStep (ks : List Int) (s : S26) : Prop := ks.contains s.f0 = true ∧ s.f1.size ≤ 20 ∧ (-1000000 ≤ s.f2 ∧ s.f2 ≤ 1000000) ∧ (-1000000 ≤ s.f3 ∧ s.f3 ≤ 1000000) ∧ s.f3 ≤ s.f4 ∧ s.f4 ≤ 1000000
def chain (x0 : List S26) (ks : List Int) (x10 : List S26) (x11 x12 : Int) (s : S26) (K : Nat) : Option Bool :=
  if (s.f1.size : Int) > 20 then (some false) else (if s.f2 < (-1000000) then (some false) else (if s.f2 > 1000000 then (some false) else (if s.f3 < (-1000000) then (some false) else (if s.f3 > 1000000 then (some false) else (if s.f4 < s.f3 then (some false) else (if s.f4 > 1000000 then (some false) else (laws_areSteps.l0 K x0 ks x10 x11 (wrap64 (x12 + 1)))))))))
theorem steps_inner (x0 : List S26) (ks : List Int) (x10 : List S26) (x11 x12 : Int) (s : S26) (K : Nat) (hks : ks.length ≤ 1000) : ∀ d m : Nat, d = ks.length - m → m ≤ ks.length → ∀ b,
    laws_areSteps.l1 (K + 1 + d) x0 ks b x10 x11 x12 ks (ks.length : Int) (m : Int) s.f0 s.f1 s.f2 s.f3 s.f4 = if (b || (ks.drop m).contains s.f0) = true then chain x0 ks x10 x11 x12 s K else some false := by
  intro d
  induction d with
  | zero =>
    intro m hd hm b
    have e : m = ks.length := by omega
    subst e
    rw [Nat.add_zero, laws_areSteps.l1, if_neg (by omega), List.drop_length]
    cases b <;> simp [chain]
  | succ d ih =>
    intro m hd hm b
    have hlt : m < ks.length := by omega
    have hc : (ks.drop m).contains s.f0 = (s.f0 == ks[m] || (ks.drop (m + 1)).contains s.f0) := by rw [List.drop_eq_getElem_cons hlt, List.contains_cons]
    have hr : rd ks (m : Int) = ks[m] := by simp [rd, List.getD_eq_getElem?_getD, hlt]
    rw [show K + 1 + (d + 1) = (K + 1 + d) + 1 by omega, laws_areSteps.l1, if_pos (by omega), if_pos (by omega), if_pos (by omega), wrap_succ (by omega), hc, hr]
    cases b
    · rw [if_neg (by simp), ih (m + 1) (by omega) (by omega)]
      simp
    · rw [if_pos rfl, ih (m + 1) (by omega) (by omega)]
      simp
theorem steps_outer (l : List S26) (ks : List Int) (hl : l.length ≤ 2147483647) (hks : ks.length ≤ 1000) : ∀ d i : Nat, d = l.length - i → i ≤ l.length →
    ∃ K r, laws_areSteps.l0 K l ks l (l.length : Int) (i : Int) = some r ∧ (r = true → l.length ≤ 20 ∧ ∀ j, i ≤ j → j < l.length → okStep ks (rdP l j)) := by
  intro d
  induction d with
  | zero =>
    intro i hd hi
    have e : i = l.length := by omega
    subst e
    refine ⟨1, _, by rw [laws_areSteps.l0, if_neg (by omega)], fun h => ⟨by have := of_decide_eq_true h; omega, fun j h1 h2 => absurd h2 (by omega)⟩⟩
  | succ d ih =>
    intro i hd hi
    obtain ⟨K, r, h1, h2⟩ := ih (i + 1) (by omega) (by omega)
    have e : rd_T26 l (i : Int) = rdP l i := rfl
    have hin := steps_inner l ks l (l.length : Int) (i : Int) (rdP l i) K hks ks.length 0 (by omega) (by omega) false
    rw [Bool.false_or, List.drop_zero] at hin
    have hu : laws_areSteps.l0 (K + 1 + ks.length + 1) l ks l (l.length : Int) (i : Int) = if ks.contains (rdP l i).f0 = true then chain l ks l (l.length : Int) (i : Int) (rdP l i) K else some false := by
      rw [laws_areSteps.l0, if_pos (by omega), if_pos (by omega), if_pos (by omega), e]; exact hin
    by_cases c0 : ks.contains (rdP l i).f0 = true
    · rw [if_pos c0] at hu
      unfold chain at hu
      rw [wrap_succ (by omega), h1] at hu
      by_cases c1 : ((rdP l i).f1.size : Int) > 20
      · exact ⟨_, false, by rw [hu, if_pos c1], fun h => by cases h⟩
      by_cases c2 : (rdP l i).f2 < (-1000000)
      · exact ⟨_, false, by rw [hu, if_neg c1, if_pos c2], fun h => by cases h⟩
      by_cases c3 : (rdP l i).f2 > 1000000
      · exact ⟨_, false, by rw [hu, if_neg c1, if_neg c2, if_pos c3], fun h => by cases h⟩
      by_cases c4 : (rdP l i).f3 < (-1000000)
      · exact ⟨_, false, by rw [hu, if_neg c1, if_neg c2, if_neg c3, if_pos c4], fun h => by cases h⟩
      by_cases c5 : (rdP l i).f3 > 1000000
      · exact ⟨_, false, by rw [hu, if_neg c1, if_neg c2, if_neg c3, if_neg c4, if_pos c5], fun h => by cases h⟩
      by_cases c6 : (rdP l i).f4 < (rdP l i).f3
      · exact ⟨_, false, by rw [hu, if_neg c1, if_neg c2, if_neg c3, if_neg c4, if_neg c5, if_pos c6], fun h => by cases h⟩
      by_cases c7 : (rdP l i).f4 > 1000000
      · exact ⟨_, false, by rw [hu, if_neg c1, if_neg c2, if_neg c3, if_neg c4, if_neg c5, if_neg c6, if_pos c7], fun h => by cases h⟩
      refine ⟨_, r, by rw [hu, if_neg c1, if_neg c2, if_neg c3, if_neg c4, if_neg c5, if_neg c6, if_neg c7], fun h => ⟨(h2 h).1, fun j hj1 hj2 => ?_⟩⟩
      by_cases hji : j = i
      · subst hji; exact ⟨c0, by omega, ⟨by omega, by omega⟩, ⟨by omega, by omega⟩, by omega, by omega⟩
      · exact (h2 h).2 j (by omega) hj2
    · exact ⟨_, false, by rw [hu, if_neg c0], fun h => by cases h⟩
theorem areSteps_some (l : List S26) (ks : List Int) (hl : l.length ≤ 2147483647) (hks : ks.length ≤ 1000) : ∃ K r, laws_areSteps.f K l ks = some r ∧ (r = true → l.length ≤ 20 ∧ ∀ j, j < l.length → okStep ks (rdP l j)) := by
  obtain ⟨K, r, h1, h2⟩ := steps_outer l ks hl hks l.length 0 (by omega) (by omega)
  exact ⟨K, r, h1, fun h => ⟨(h2 h).1, fun j hj => (h2 h).2 j (Nat.zero_le _) hj⟩⟩
theorem same_loop (l : List Int) (hl : l.length ≤ 2147483647) : ∀ d i : Nat, d = l.length - i → i ≤ l.length → PFnMapState.spec_StateSame.l0 (d + 1) l l (l.length : Int) (i : Int) = some true := by
  intro d
  induction d with
  | zero => intro i hd hi; rw [PFnMapState.spec_StateSame.l0, if_neg (by omega)]
  | succ d ih =>
    intro i hd hi
    rw [PFnMapState.spec_StateSame.l0, if_pos (by omega), if_pos (by omega), if_pos (by omega), if_pos (by omega), if_pos rfl, wrap_succ (by omega)]
    exact ih (i + 1) (by omega) (by omega)
theorem same_self (l : List Int) (hl : l.length ≤ 2147483647) : PFnMapState.spec_StateSame.f (l.length + 1) l l = some true := by
  unfold PFnMapState.spec_StateSame.f
  rw [if_pos rfl]
  exact same_loop l hl l.length 0 (by omega) (by omega)
theorem fits7_some (l : List S26) : ∃ k r, PFnMapState.laws_zzFits7.f k l = some r ∧ (r = true → l.length ≤ 2147483647) := by
  by_cases hl : (l.length : Int) > 2147483647
  · exact ⟨0, false, by unfold PFnMapState.laws_zzFits7.f; rw [if_pos hl], fun h => by cases h⟩
  · have key : ∀ d i : Nat, d = l.length - i → i ≤ l.length → ∃ k r, PFnMapState.laws_zzFits7.l0 k l (l.length : Int) (i : Int) = some r := by
      intro d
      induction d with
      | zero => intro i hd hi; exact ⟨1, true, by rw [PFnMapState.laws_zzFits7.l0, if_neg (by omega)]⟩
      | succ d ih =>
        intro i hd hi
        obtain ⟨k, r, hk⟩ := ih (i + 1) (by omega) (by omega)
        obtain ⟨b, hb⟩ : ∃ b, PFnMapState.laws_zzFits8.f (rd_T26 l i).f0 (rd_T26 l i).f1 (rd_T26 l i).f2 (rd_T26 l i).f3 (rd_T26 l i).f4 = some b := by
          unfold PFnMapState.laws_zzFits8.f; split <;> exact ⟨_, rfl⟩
        cases b
        · exact ⟨k + 1, false, by rw [PFnMapState.laws_zzFits7.l0, if_pos (by omega), if_pos (by omega), if_pos (by omega), hb]; rfl⟩
        · exact ⟨k + 1, r, by rw [PFnMapState.laws_zzFits7.l0, if_pos (by omega), if_pos (by omega), if_pos (by omega), hb, wrap_succ (by omega)]; exact hk⟩
    obtain ⟨k, r, hk⟩ := key l.length 0 (by omega) (by omega)
    exact ⟨k, r, by unfold PFnMapState.laws_zzFits7.f; rw [if_neg hl]; exact hk, fun _ => by omega⟩
end Go.Proofs.Ytoigekmdicepnaa
