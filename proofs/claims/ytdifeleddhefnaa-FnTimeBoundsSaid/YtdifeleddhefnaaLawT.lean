/- The walks of the statements on times. -/
import Derived.Test.YtdifeleddhefnaaAwake
set_option linter.unusedVariables false
set_option linter.unusedSimpArgs false
namespace Go.Proofs.Ytdifeleddhefnaa
open Go.RowKit Go.Proofs.YtdifeleddhefnaaW.PrintWords

theorem i64_bd {n : Int} (h : (Lit.int .i64 n).wf = true) : -9223372036854775808 ≤ n ∧ n ≤ 9223372036854775807 := by
  have hmin : IntKind.i64.min = -9223372036854775808 := rfl
  have hmax : IntKind.i64.max = 9223372036854775807 := rfl
  simp only [Lit.wf, Bool.and_eq_true, decide_eq_true_eq] at h
  omega
theorem u8_bd {n : Int} (h : (Lit.int .u8 n).wf = true) : 0 ≤ n ∧ n ≤ 255 := by
  have hmin : IntKind.u8.min = 0 := rfl
  have hmax : IntKind.u8.max = 255 := rfl
  simp only [Lit.wf, Bool.and_eq_true, decide_eq_true_eq] at h
  omega
theorem timeAdd_walk (t d : Int) (w0 : (Lit.int .i64 t).wf = true) (w1 : (Lit.int .i64 d).wf = true) (w : World) :
    Calls Try.prog 7 #[.int .i64 t, .int .i64 d] w fun e w' => e = .returned (.bool true) ∧ Below w.heap.size w w' := by
  obtain ⟨d0, d1⟩ := i64_bd w1
  clear w0 w1
  cases hT : isT t
  · go_enter Try.func7, Try.ntmps7
    go_wp2_with (go_at_call 24; refine (isTime_any _ _).mono ?_; rintro e w' ⟨rfl, rfl⟩)
    go_ret
    exact ⟨rfl, Below.refl _ _⟩
  · obtain ⟨t0, t1⟩ := isT_iff.1 hT
    go_enter Try.func7, Try.ntmps7
    go_wp2_with (first
      | (go_at_call 24; refine (isTime_any _ _).mono ?_; rintro e w' ⟨rfl, rfl⟩)
      | (go_at_call 25; refine (timeAdd_any _ _ d0 d1 (by omega) (by omega) _).mono ?_; rintro e w' ⟨rfl, rfl⟩)
      | (go_at_call 27; refine (timeSub_any _ _ d0 d1 (by omega) (by omega) _).mono ?_; rintro e w' ⟨rfl, rfl⟩)
      | (go_at_call 26; (with_reducible refine (moved_f _ _ d0 d1 (by omega) (by omega) _).mono ?_); rintro e w' ⟨rfl, rfl⟩)
      | (go_at_call 26; (with_reducible refine (moved_t _ _ d0 d1 (by omega) (by omega) _).mono ?_); rintro e w' ⟨rfl, rfl⟩)
      | (go_at_call 23; refine (awake_any _).mono ?_; rintro e w' ⟨rfl, hb⟩; have HB := Aside0.mk hb; clear hb))
    go_ret
    exact ⟨rfl, HB.out⟩
theorem timeDuration_walk (d : Int) (w1 : (Lit.int .i64 d).wf = true) (w : World) :
    Calls Try.prog 10 #[.int .i64 d] w fun e w' => e = .returned (.bool true) ∧ Below w.heap.size w w' := by
  obtain ⟨d0, d1⟩ := i64_bd w1
  clear w1
  have hb := msOf_bd d0 d1
  have e1 : nrm (msOf d) = d.tdiv 1000000 := nrm_in (by omega) (by omega)
  unfold msOf at hb
  go_enter Try.func10, Try.ntmps10
  go_wp2_with (first
      | (go_at_call 33; refine (timeOfMs_any _ _).mono ?_; rintro e w' ⟨rfl, rfl⟩)
      | (go_at_call 34; refine (timeOfDur_any _ d0 d1 _).mono ?_; rintro e w' ⟨rfl, rfl⟩)
      | (go_at_call 30; refine (timeIn_any _ _).mono ?_; rintro e w' ⟨rfl, rfl⟩)
      | (go_at_call 35; refine (timeMs_any _ _).mono ?_; rintro e w' ⟨rfl, rfl⟩)
      | (go_at_call 23; refine (awake_any _).mono ?_; rintro e w' ⟨rfl, hb⟩; have HB := Aside0.mk hb; clear hb))
  go_ret
  exact ⟨rfl, HB.out⟩
end Go.Proofs.Ytdifeleddhefnaa
