/- The contract of the reference's test on window functions. -/
import Derived.Test.YtdifeleddhefnaaAsg
set_option linter.unusedVariables false
set_option linter.unusedSimpArgs false
namespace Go.Proofs.Ytdifeleddhefnaa
open Go.RowKit Go.Proofs.YtdifeleddhefnaaW.PrintWords

/-- A number is asked for and within its bounds, or is not and is 0. -/
def in9 (n : Int) (asked : Bool) : Bool := (asked && (decide (1 ≤ n) && decide (n ≤ 1000000000))) || (!asked && n == 0)
theorem in9_any (n : Int) (b : Bool) (w : World) : Calls Try.prog 48 #[.int .i64 n, .bool b] w fun e w' => e = .returned (.bool (in9 n b)) ∧ w = w' := by
  cases b
  · go_enter Try.func48, Try.ntmps48
    go_wp2
    all_goals
      go_ret
      exact ⟨ret_bool (by simp [in9]), rfl⟩
  · by_cases h1 : 1 ≤ n
    · by_cases h2 : n ≤ 1000000000
      · go_enter Try.func48, Try.ntmps48
        go_wp2
        go_ret
        exact ⟨ret_bool (by simp [in9, h1, h2]), rfl⟩
      · go_enter Try.func48, Try.ntmps48
        go_wp2
        go_ret
        exact ⟨ret_bool (by simp [in9]; omega), rfl⟩
    · go_enter Try.func48, Try.ntmps48
      go_wp2
      go_ret
      exact ⟨ret_bool (by simp [in9]; omega), rfl⟩
/-- What the reference takes for a function on windows. -/
def isF (f : WF) : Bool := decide (f.k ≤ 3) && (in9 f.sz (f.k == 1 || f.k == 2) && (in9 f.pd (f.k == 2) && (in9 f.gp (f.k == 3) && (f.k != 2 || decide (f.sz.tdiv f.pd ≤ 100)))))
set_option maxHeartbeats 4000000 in
theorem isF_0 (sz pd gp : Int) (w : World) : Calls Try.prog 18 #[.agg #[.int .u8 0, .int .i64 sz, .int .i64 pd, .int .i64 gp]] w fun e w' => e = .returned (.bool (isF ⟨0, sz, pd, gp⟩)) ∧ Below w.heap.size w w' := by
  cases e1 : in9 sz false
  ·
    have HR := Aside0.mk (show isF ⟨0, sz, pd, gp⟩ = false by simp [isF, e1])
    go_enter Try.func18, Try.ntmps18
    go_wp2_with (go_at_call 48; refine (in9_any _ _ _).mono ?_; rintro e w' ⟨rfl, rfl⟩)
    go_ret
    exact ⟨ret_bool HR.out.symm, by repeat (first | exact Below.refl _ _ | apply below_alloc | apply below_drew | apply pw_below_drewN | refine below_set ?_ (by simp) | (refine Below.setCell ?_ (by simp) _))⟩
  · cases e2 : in9 pd false
    ·
      have HR := Aside0.mk (show isF ⟨0, sz, pd, gp⟩ = false by simp [isF, e1, e2])
      go_enter Try.func18, Try.ntmps18
      go_wp2_with (go_at_call 48; refine (in9_any _ _ _).mono ?_; rintro e w' ⟨rfl, rfl⟩)
      go_ret
      exact ⟨ret_bool HR.out.symm, by repeat (first | exact Below.refl _ _ | apply below_alloc | apply below_drew | apply pw_below_drewN | refine below_set ?_ (by simp) | (refine Below.setCell ?_ (by simp) _))⟩
    · cases e3 : in9 gp false
      ·
        have HR := Aside0.mk (show isF ⟨0, sz, pd, gp⟩ = false by simp [isF, e1, e2, e3])
        go_enter Try.func18, Try.ntmps18
        go_wp2_with (go_at_call 48; refine (in9_any _ _ _).mono ?_; rintro e w' ⟨rfl, rfl⟩)
        go_ret
        exact ⟨ret_bool HR.out.symm, by repeat (first | exact Below.refl _ _ | apply below_alloc | apply below_drew | apply pw_below_drewN | refine below_set ?_ (by simp) | (refine Below.setCell ?_ (by simp) _))⟩
      ·
        have HR := Aside0.mk (show isF ⟨0, sz, pd, gp⟩ = true by simp [isF, e1, e2, e3])
        go_enter Try.func18, Try.ntmps18
        go_wp2_with (go_at_call 48; refine (in9_any _ _ _).mono ?_; rintro e w' ⟨rfl, rfl⟩)
        go_ret
        exact ⟨ret_bool HR.out.symm, by repeat (first | exact Below.refl _ _ | apply below_alloc | apply below_drew | apply pw_below_drewN | refine below_set ?_ (by simp) | (refine Below.setCell ?_ (by simp) _))⟩
set_option maxHeartbeats 4000000 in
theorem isF_1 (sz pd gp : Int) (w : World) : Calls Try.prog 18 #[.agg #[.int .u8 1, .int .i64 sz, .int .i64 pd, .int .i64 gp]] w fun e w' => e = .returned (.bool (isF ⟨1, sz, pd, gp⟩)) ∧ Below w.heap.size w w' := by
  cases e1 : in9 sz true
  ·
    have HR := Aside0.mk (show isF ⟨1, sz, pd, gp⟩ = false by simp [isF, e1])
    go_enter Try.func18, Try.ntmps18
    go_wp2_with (go_at_call 48; refine (in9_any _ _ _).mono ?_; rintro e w' ⟨rfl, rfl⟩)
    go_ret
    exact ⟨ret_bool HR.out.symm, by repeat (first | exact Below.refl _ _ | apply below_alloc | apply below_drew | apply pw_below_drewN | refine below_set ?_ (by simp) | (refine Below.setCell ?_ (by simp) _))⟩
  · cases e2 : in9 pd false
    ·
      have HR := Aside0.mk (show isF ⟨1, sz, pd, gp⟩ = false by simp [isF, e1, e2])
      go_enter Try.func18, Try.ntmps18
      go_wp2_with (go_at_call 48; refine (in9_any _ _ _).mono ?_; rintro e w' ⟨rfl, rfl⟩)
      go_ret
      exact ⟨ret_bool HR.out.symm, by repeat (first | exact Below.refl _ _ | apply below_alloc | apply below_drew | apply pw_below_drewN | refine below_set ?_ (by simp) | (refine Below.setCell ?_ (by simp) _))⟩
    · cases e3 : in9 gp false
      ·
        have HR := Aside0.mk (show isF ⟨1, sz, pd, gp⟩ = false by simp [isF, e1, e2, e3])
        go_enter Try.func18, Try.ntmps18
        go_wp2_with (go_at_call 48; refine (in9_any _ _ _).mono ?_; rintro e w' ⟨rfl, rfl⟩)
        go_ret
        exact ⟨ret_bool HR.out.symm, by repeat (first | exact Below.refl _ _ | apply below_alloc | apply below_drew | apply pw_below_drewN | refine below_set ?_ (by simp) | (refine Below.setCell ?_ (by simp) _))⟩
      ·
        have HR := Aside0.mk (show isF ⟨1, sz, pd, gp⟩ = true by simp [isF, e1, e2, e3])
        go_enter Try.func18, Try.ntmps18
        go_wp2_with (go_at_call 48; refine (in9_any _ _ _).mono ?_; rintro e w' ⟨rfl, rfl⟩)
        go_ret
        exact ⟨ret_bool HR.out.symm, by repeat (first | exact Below.refl _ _ | apply below_alloc | apply below_drew | apply pw_below_drewN | refine below_set ?_ (by simp) | (refine Below.setCell ?_ (by simp) _))⟩
set_option maxHeartbeats 4000000 in
theorem isF_2 (sz pd gp : Int) (w : World) : Calls Try.prog 18 #[.agg #[.int .u8 2, .int .i64 sz, .int .i64 pd, .int .i64 gp]] w fun e w' => e = .returned (.bool (isF ⟨2, sz, pd, gp⟩)) ∧ Below w.heap.size w w' := by
  cases e1 : in9 sz true
  ·
    have HR := Aside0.mk (show isF ⟨2, sz, pd, gp⟩ = false by simp [isF, e1])
    go_enter Try.func18, Try.ntmps18
    go_wp2_with (go_at_call 48; refine (in9_any _ _ _).mono ?_; rintro e w' ⟨rfl, rfl⟩)
    go_ret
    exact ⟨ret_bool HR.out.symm, by repeat (first | exact Below.refl _ _ | apply below_alloc | apply below_drew | apply pw_below_drewN | refine below_set ?_ (by simp) | (refine Below.setCell ?_ (by simp) _))⟩
  · cases e2 : in9 pd true
    ·
      have HR := Aside0.mk (show isF ⟨2, sz, pd, gp⟩ = false by simp [isF, e1, e2])
      go_enter Try.func18, Try.ntmps18
      go_wp2_with (go_at_call 48; refine (in9_any _ _ _).mono ?_; rintro e w' ⟨rfl, rfl⟩)
      go_ret
      exact ⟨ret_bool HR.out.symm, by repeat (first | exact Below.refl _ _ | apply below_alloc | apply below_drew | apply pw_below_drewN | refine below_set ?_ (by simp) | (refine Below.setCell ?_ (by simp) _))⟩
    · cases e3 : in9 gp false
      ·
        have HR := Aside0.mk (show isF ⟨2, sz, pd, gp⟩ = false by simp [isF, e1, e2, e3])
        go_enter Try.func18, Try.ntmps18
        go_wp2_with (go_at_call 48; refine (in9_any _ _ _).mono ?_; rintro e w' ⟨rfl, rfl⟩)
        go_ret
        exact ⟨ret_bool HR.out.symm, by repeat (first | exact Below.refl _ _ | apply below_alloc | apply below_drew | apply pw_below_drewN | refine below_set ?_ (by simp) | (refine Below.setCell ?_ (by simp) _))⟩
      · have hp : 1 ≤ pd ∧ pd ≤ 1000000000 := by simpa [in9] using e2
        have hs : 1 ≤ sz ∧ sz ≤ 1000000000 := by simpa [in9] using e1
        have hz : (pd == 0) = false := by simp; omega
        have ht : sz.tdiv pd = sz / pd := Int.tdiv_eq_ediv_of_nonneg (by omega)
        have HT := Aside0.mk ht
        clear ht
        by_cases h4 : sz / pd ≤ 100
        ·
          have HR := Aside0.mk (show isF ⟨2, sz, pd, gp⟩ = true by simp [isF, e1, e2, e3, HT.out, h4])
          go_enter Try.func18, Try.ntmps18
          go_wp2_with (go_at_call 48; refine (in9_any _ _ _).mono ?_; rintro e w' ⟨rfl, rfl⟩)
          go_ret
          exact ⟨ret_bool HR.out.symm, by repeat (first | exact Below.refl _ _ | apply below_alloc | apply below_drew | apply pw_below_drewN | refine below_set ?_ (by simp) | (refine Below.setCell ?_ (by simp) _))⟩
        · have h4' : decide (sz / pd ≤ 100) = false := decide_eq_false h4
          have HR := Aside0.mk (show isF ⟨2, sz, pd, gp⟩ = false by simp [isF, e1, e2, e3, HT.out] ; omega)
          go_enter Try.func18, Try.ntmps18
          go_wp2_with (go_at_call 48; refine (in9_any _ _ _).mono ?_; rintro e w' ⟨rfl, rfl⟩)
          go_ret
          exact ⟨ret_bool HR.out.symm, by repeat (first | exact Below.refl _ _ | apply below_alloc | apply below_drew | apply pw_below_drewN | refine below_set ?_ (by simp) | (refine Below.setCell ?_ (by simp) _))⟩
set_option maxHeartbeats 4000000 in
theorem isF_3 (sz pd gp : Int) (w : World) : Calls Try.prog 18 #[.agg #[.int .u8 3, .int .i64 sz, .int .i64 pd, .int .i64 gp]] w fun e w' => e = .returned (.bool (isF ⟨3, sz, pd, gp⟩)) ∧ Below w.heap.size w w' := by
  cases e1 : in9 sz false
  ·
    have HR := Aside0.mk (show isF ⟨3, sz, pd, gp⟩ = false by simp [isF, e1])
    go_enter Try.func18, Try.ntmps18
    go_wp2_with (go_at_call 48; refine (in9_any _ _ _).mono ?_; rintro e w' ⟨rfl, rfl⟩)
    go_ret
    exact ⟨ret_bool HR.out.symm, by repeat (first | exact Below.refl _ _ | apply below_alloc | apply below_drew | apply pw_below_drewN | refine below_set ?_ (by simp) | (refine Below.setCell ?_ (by simp) _))⟩
  · cases e2 : in9 pd false
    ·
      have HR := Aside0.mk (show isF ⟨3, sz, pd, gp⟩ = false by simp [isF, e1, e2])
      go_enter Try.func18, Try.ntmps18
      go_wp2_with (go_at_call 48; refine (in9_any _ _ _).mono ?_; rintro e w' ⟨rfl, rfl⟩)
      go_ret
      exact ⟨ret_bool HR.out.symm, by repeat (first | exact Below.refl _ _ | apply below_alloc | apply below_drew | apply pw_below_drewN | refine below_set ?_ (by simp) | (refine Below.setCell ?_ (by simp) _))⟩
    · cases e3 : in9 gp true
      ·
        have HR := Aside0.mk (show isF ⟨3, sz, pd, gp⟩ = false by simp [isF, e1, e2, e3])
        go_enter Try.func18, Try.ntmps18
        go_wp2_with (go_at_call 48; refine (in9_any _ _ _).mono ?_; rintro e w' ⟨rfl, rfl⟩)
        go_ret
        exact ⟨ret_bool HR.out.symm, by repeat (first | exact Below.refl _ _ | apply below_alloc | apply below_drew | apply pw_below_drewN | refine below_set ?_ (by simp) | (refine Below.setCell ?_ (by simp) _))⟩
      ·
        have HR := Aside0.mk (show isF ⟨3, sz, pd, gp⟩ = true by simp [isF, e1, e2, e3])
        go_enter Try.func18, Try.ntmps18
        go_wp2_with (go_at_call 48; refine (in9_any _ _ _).mono ?_; rintro e w' ⟨rfl, rfl⟩)
        go_ret
        exact ⟨ret_bool HR.out.symm, by repeat (first | exact Below.refl _ _ | apply below_alloc | apply below_drew | apply pw_below_drewN | refine below_set ?_ (by simp) | (refine Below.setCell ?_ (by simp) _))⟩
theorem isF_big (k sz pd gp : Int) (hk : 3 < k) (w : World) : Calls Try.prog 18 #[.agg #[.int .u8 k, .int .i64 sz, .int .i64 pd, .int .i64 gp]] w fun e w' => e = .returned (.bool (isF ⟨k, sz, pd, gp⟩)) ∧ Below w.heap.size w w' := by
  have HR := Aside0.mk (show isF ⟨k, sz, pd, gp⟩ = false by simp [isF]; omega)
  go_enter Try.func18, Try.ntmps18
  go_wp2
  go_ret
  exact ⟨ret_bool HR.out.symm, by repeat (first | exact Below.refl _ _ | apply below_alloc | apply below_drew | apply pw_below_drewN | refine below_set ?_ (by simp) | (refine Below.setCell ?_ (by simp) _))⟩
theorem isF_any (f : WF) (h0 : 0 ≤ f.k) (w : World) : Calls Try.prog 18 #[f.val] w fun e w' => e = .returned (.bool (isF f)) ∧ Below w.heap.size w w' := by
  obtain ⟨k, sz, pd, gp⟩ := f
  simp only at h0
  rcases (show k = 0 ∨ k = 1 ∨ k = 2 ∨ k = 3 ∨ 3 < k from by omega) with rfl | rfl | rfl | rfl | hk
  · exact isF_0 sz pd gp w
  · exact isF_1 sz pd gp w
  · exact isF_2 sz pd gp w
  · exact isF_3 sz pd gp w
  · exact isF_big k sz pd gp hk w
end Go.Proofs.Ytdifeleddhefnaa
