/- The walk of FnTimeBack. -/
import Derived.Test.YtdifeleddhefnaaLawT
set_option linter.unusedVariables false
set_option linter.unusedSimpArgs false
namespace Go.Proofs.Ytdifeleddhefnaa
open Go.RowKit Go.Proofs.YtdifeleddhefnaaW.PrintWords

theorem timeBack_walk (t d : Int) (w0 : (Lit.int .i64 t).wf = true) (w1 : (Lit.int .i64 d).wf = true) (w : World) :
    Calls Try.prog 8 #[.int .i64 t, .int .i64 d] w fun e w' => e = .returned (.bool true) ∧ Below w.heap.size w w' := by
  obtain ⟨d0, d1⟩ := i64_bd w1
  clear w0 w1
  have hb := msOf_bd d0 d1
  unfold msOf at hb
  obtain ⟨hb0, hb1⟩ := hb
  have hw := IntWalk.wrap64_in (d.tdiv 1000000) (by omega)
  cases hT : isT t
  · go_enter Try.func8, Try.ntmps8
    go_wp2_with (go_at_call 24; refine (isTime_any _ _).mono ?_; rintro e w' ⟨rfl, rfl⟩)
    go_ret
    exact ⟨rfl, Below.refl _ _⟩
  · obtain ⟨t0, t1⟩ := isT_iff.1 hT
    cases hU : isT (t + d.tdiv 1000000)
    · go_enter Try.func8, Try.ntmps8
      go_wp2_with (go_at_call 24; refine (isTime_any _ _).mono ?_; rintro e w' ⟨rfl, rfl⟩)
      go_ret
      exact ⟨rfl, Below.refl _ _⟩
    · obtain ⟨u0, u1⟩ := isT_iff.1 hU
      have e1 : nrm (t + msOf d) = t + d.tdiv 1000000 := nrm_in u0 u1
      have e2 : nrm (t + d.tdiv 1000000 - msOf d) = t := by unfold msOf; rw [show t + d.tdiv 1000000 - d.tdiv 1000000 = t from by omega]; exact nrm_in t0 t1
      have e3 : msOf (-d.tdiv 1000000 * 1000000) = -d.tdiv 1000000 := ms_mul _
      have e4 : (nrm (t + -d.tdiv 1000000) == nrm (t - msOf d)) = true := by unfold msOf; rw [show t + -d.tdiv 1000000 = t - d.tdiv 1000000 from by omega]; simp
      go_enter Try.func8, Try.ntmps8
      go_wp2_with (first
        | (go_at_call 24; refine (isTime_any _ _).mono ?_; rintro e w' ⟨rfl, rfl⟩)
        | (go_at_call 25; refine (timeAdd_any _ _ (by omega) (by omega) (by omega) (by omega) _).mono ?_; rintro e w' ⟨rfl, rfl⟩)
        | (go_at_call 27; refine (timeSub_any _ _ (by omega) (by omega) (by omega) (by omega) _).mono ?_; rintro e w' ⟨rfl, rfl⟩)
        | (go_at_call 23; refine (awake_any _).mono ?_; rintro e w' ⟨rfl, hb⟩; have HB := Aside0.mk hb; clear hb))
      go_ret
      exact ⟨rfl, HB.out⟩
end Go.Proofs.Ytdifeleddhefnaa
