/- 'winAwake' answers true. -/
import Derived.Test.YtdifeleddhefnaaRef
set_option linter.unusedVariables false
set_option linter.unusedSimpArgs false
namespace Go.Proofs.Ytdifeleddhefnaa
open Go.RowKit Go.Proofs.YtdifeleddhefnaaW.PrintWords
attribute [local go_sem high] eqA50 eqA36

/-- What is owned of windows, as the walk wants it: the value's shape, and each element's cells. -/
theorem reads_sp {w : World} {base e : Nat} {ok : Nat → Prop} {v : Value} {l : List Sp} (h : Kd.R kSp e w base ok v l) : ∃ A c, v = .slice A l.length c ∧ l.length ≤ c ∧ Kd.C kSp w A l.length l := Kd.R_reads h
theorem awake_any (w : World) : Calls Try.prog 23 #[] w fun e w' => e = .returned (.bool true) ∧ Below w.heap.size w w' := by
  have ft : FT ⟨1, 10, 0, 0⟩ 25 := ⟨⟨by decide, by decide⟩, ⟨by decide, by decide⟩, ⟨by decide, by decide⟩, fun _ => ⟨by decide, by decide⟩, fun h => absurd h (by decide), fun h => absurd h (by decide), by decide⟩
  have FTa := Aside0.mk ft
  clear ft
  have hpl : placed ⟨1, 10, 0, 0⟩ 25 = [⟨false, 20, 30⟩] := by decide
  have HPL := Aside0.mk hpl
  clear hpl
  have hn : nrm (5 + msOf 3000000) = 8 := by decide
  go_enter Try.func23, Try.ntmps23
  go_wp2_with (first
    | (go_at_call 21; refine (winAssign_any ⟨1, 10, 0, 0⟩ 25 FTa.out _).mono ?_; rintro e w1 ⟨v_, rfl, hR, hb⟩; rw [HPL.out] at hR; obtain ⟨A_, c_, hv_, hc_, hC_⟩ := reads_sp hR; subst hv_; obtain ⟨ad_, ha_, x0, x1, x2⟩ := atSp hC_ 0 (by decide); subst ha_; have HB := Aside0.mk hb; clear hb hR hc_ hC_; simp only [rdSp, List.getD_cons_zero, Nat.zero_mul] at x0 x1 x2; rw [show ad_.add 0 = ad_ from rfl] at x0 x1 x2)
    | (go_at_call 25; refine (timeAdd_any _ _ (by omega) (by omega) (by omega) (by omega) _).mono ?_; rintro e w' ⟨rfl, rfl⟩))
  go_ret
  exact ⟨rfl, HB.out⟩
end Go.Proofs.Ytdifeleddhefnaa
