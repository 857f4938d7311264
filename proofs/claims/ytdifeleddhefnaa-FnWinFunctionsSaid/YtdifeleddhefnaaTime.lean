/- Contracts of package mtime's functions and of the reference's functions on times: each only reckons, no memory turns. -/
import Derived.Test.YtdifeleddhefnaaProg
import Derived.WalkKit
import Derived.WalkSpells
import Derived.WalkLawsBesides
import Derived.Handy
namespace Go.Proofs.Ytdifeleddhefnaa
open Go.RowKit

theorem ret_int {k : IntKind} {a b : Int} (h : a = b) : Ending.returned (.int k a) = .returned (.int k b) := by rw [h]
theorem ret_bool {a b : Bool} (h : a = b) : Ending.returned (.bool a) = .returned (.bool b) := by rw [h]
def mx (a b : Int) : Int := if a < b then b else a
def mn (a b : Int) : Int := if a < b then a else b
/-- A time cut to the ends of time. -/
def nrm (t : Int) : Int := if t < -9223372036854775 then -9223372036854775 else if 9223372036854775 < t then 9223372036854775 else t
theorem nrm_in {t : Int} (h0 : -9223372036854775 ≤ t) (h1 : t ≤ 9223372036854775) : nrm t = t := by unfold nrm; rw [if_neg (by omega), if_neg (by omega)]
theorem nrm_bd (t : Int) : -9223372036854775 ≤ nrm t ∧ nrm t ≤ 9223372036854775 := by unfold nrm; split; omega; split <;> omega
theorem nrm_mx (t : Int) : mn (mx t (-9223372036854775)) 9223372036854775 = nrm t := by
  unfold nrm mn mx
  split <;> split <;> (try split) <;> (try split) <;> omega
/-- Whole milliseconds of nanoseconds, towards 0. -/
def msOf (d : Int) : Int := d.tdiv 1000000
theorem msOf_bd {d : Int} (h0 : -9223372036854775808 ≤ d) (h1 : d ≤ 9223372036854775807) : -9223372036854 ≤ msOf d ∧ msOf d ≤ 9223372036854 := by
  unfold msOf
  by_cases h : 0 ≤ d
  · rw [Int.tdiv_eq_ediv_of_nonneg h]; omega
  · obtain ⟨e, rfl⟩ : ∃ e, d = -e := ⟨-d, by omega⟩
    rw [Int.neg_tdiv, Int.tdiv_eq_ediv_of_nonneg (by omega)]; omega

theorem max_any (a b : Int) (w : World) : Calls Try.prog 55 #[.int .i64 a, .int .i64 b] w fun e w' => e = .returned (.int .i64 (mx a b)) ∧ w = w' := by
  by_cases h : a < b
  · go_enter Try.func55, Try.ntmps55
    go_wp2
    go_ret
    exact ⟨ret_int (by unfold mx; rw [if_pos h]), rfl⟩
  · go_enter Try.func55, Try.ntmps55
    go_wp2
    go_ret
    exact ⟨ret_int (by unfold mx; rw [if_neg (by omega)]), rfl⟩
theorem min_any (a b : Int) (w : World) : Calls Try.prog 56 #[.int .i64 a, .int .i64 b] w fun e w' => e = .returned (.int .i64 (mn a b)) ∧ w = w' := by
  by_cases h : a < b
  · go_enter Try.func56, Try.ntmps56
    go_wp2
    go_ret
    exact ⟨ret_int (by unfold mn; rw [if_pos h]), rfl⟩
  · go_enter Try.func56, Try.ntmps56
    go_wp2
    go_ret
    exact ⟨ret_int (by unfold mn; rw [if_neg (by omega)]), rfl⟩
theorem norm_any (t : Int) (w : World) : Calls Try.prog 54 #[.int .i64 t] w fun e w' => e = .returned (.int .i64 (nrm t)) ∧ w = w' := by
  go_enter Try.func54, Try.ntmps54
  go_wp2_with (first | (go_at_call 55; refine (max_any _ _ _).mono ?_; rintro e w' ⟨rfl, rfl⟩) | (go_at_call 56; refine (min_any _ _ _).mono ?_; rintro e w' ⟨rfl, rfl⟩))
  go_ret
  exact ⟨ret_int (nrm_mx t), rfl⟩
theorem millis_any (d : Int) (h0 : -9223372036854775808 ≤ d) (h1 : d ≤ 9223372036854775807) (w : World) : Calls Try.prog 91 #[.int .i64 d] w fun e w' => e = .returned (.int .i64 (msOf d)) ∧ w = w' := by
  have hb := msOf_bd h0 h1
  unfold msOf at hb
  go_enter Try.func91, Try.ntmps91
  go_wp2
  go_ret
  exact ⟨ret_int rfl, rfl⟩
theorem add_any (t d : Int) (h0 : -9223372036854775808 ≤ d) (h1 : d ≤ 9223372036854775807) (h2 : -4611686018427387904 ≤ t) (h3 : t ≤ 4611686018427387904) (w : World) : Calls Try.prog 78 #[.int .i64 t, .int .i64 d] w fun e w' => e = .returned (.int .i64 (nrm (t + msOf d))) ∧ w = w' := by
  have hb := msOf_bd h0 h1
  go_enter Try.func78, Try.ntmps78
  go_wp2_with (first | (go_at_call 91; refine (millis_any _ h0 h1 _).mono ?_; rintro e w' ⟨rfl, rfl⟩) | (go_at_call 54; refine (norm_any _ _).mono ?_; rintro e w' ⟨rfl, rfl⟩))
  go_ret
  exact ⟨rfl, rfl⟩
theorem sub_any (t d : Int) (h0 : -9223372036854775808 ≤ d) (h1 : d ≤ 9223372036854775807) (h2 : -4611686018427387904 ≤ t) (h3 : t ≤ 4611686018427387904) (w : World) : Calls Try.prog 79 #[.int .i64 t, .int .i64 d] w fun e w' => e = .returned (.int .i64 (nrm (t - msOf d))) ∧ w = w' := by
  have hb := msOf_bd h0 h1
  go_enter Try.func79, Try.ntmps79
  go_wp2_with (first | (go_at_call 91; refine (millis_any _ h0 h1 _).mono ?_; rintro e w' ⟨rfl, rfl⟩) | (go_at_call 54; refine (norm_any _ _).mono ?_; rintro e w' ⟨rfl, rfl⟩))
  go_ret
  exact ⟨rfl, rfl⟩
theorem add64_any (t d : Int) (h0 : -9223372036854775808 ≤ d) (h1 : d ≤ 9223372036854775807) (h2 : -4611686018427387904 ≤ t) (h3 : t ≤ 4611686018427387904) (w : World) : Calls Try.prog 52 #[.int .i64 t, .int .i64 d] w fun e w' => e = .returned (.int .i64 (nrm (t + msOf d))) ∧ w = w' := by
  go_enter Try.func52, Try.ntmps52
  go_wp2_with (go_at_call 78; refine (add_any _ _ h0 h1 h2 h3 _).mono ?_; rintro e w' ⟨rfl, rfl⟩)
  go_ret
  exact ⟨rfl, rfl⟩
theorem sub64_any (t d : Int) (h0 : -9223372036854775808 ≤ d) (h1 : d ≤ 9223372036854775807) (h2 : -4611686018427387904 ≤ t) (h3 : t ≤ 4611686018427387904) (w : World) : Calls Try.prog 53 #[.int .i64 t, .int .i64 d] w fun e w' => e = .returned (.int .i64 (nrm (t - msOf d))) ∧ w = w' := by
  go_enter Try.func53, Try.ntmps53
  go_wp2_with (go_at_call 79; refine (sub_any _ _ h0 h1 h2 h3 _).mono ?_; rintro e w' ⟨rfl, rfl⟩)
  go_ret
  exact ⟨rfl, rfl⟩
theorem timeAdd_any (t d : Int) (h0 : -9223372036854775808 ≤ d) (h1 : d ≤ 9223372036854775807) (h2 : -4611686018427387904 ≤ t) (h3 : t ≤ 4611686018427387904) (w : World) : Calls Try.prog 25 #[.int .i64 t, .int .i64 d] w fun e w' => e = .returned (.int .i64 (nrm (t + msOf d))) ∧ w = w' := by
  go_enter Try.func25, Try.ntmps25
  go_wp2_with (go_at_call 52; refine (add64_any _ _ h0 h1 h2 h3 _).mono ?_; rintro e w' ⟨rfl, rfl⟩)
  go_ret
  exact ⟨rfl, rfl⟩
theorem timeSub_any (t d : Int) (h0 : -9223372036854775808 ≤ d) (h1 : d ≤ 9223372036854775807) (h2 : -4611686018427387904 ≤ t) (h3 : t ≤ 4611686018427387904) (w : World) : Calls Try.prog 27 #[.int .i64 t, .int .i64 d] w fun e w' => e = .returned (.int .i64 (nrm (t - msOf d))) ∧ w = w' := by
  go_enter Try.func27, Try.ntmps27
  go_wp2_with (go_at_call 53; refine (sub64_any _ _ h0 h1 h2 h3 _).mono ?_; rintro e w' ⟨rfl, rfl⟩)
  go_ret
  exact ⟨rfl, rfl⟩
theorem fromDur_any (d : Int) (h0 : -9223372036854775808 ≤ d) (h1 : d ≤ 9223372036854775807) (w : World) : Calls Try.prog 80 #[.int .i64 d] w fun e w' => e = .returned (.int .i64 (nrm (msOf d))) ∧ w = w' := by
  go_enter Try.func80, Try.ntmps80
  go_wp2_with (go_at_call 78; refine (add_any _ _ h0 h1 (by omega) (by omega) _).mono ?_; rintro e w' ⟨rfl, rfl⟩)
  go_ret
  exact ⟨rfl, rfl⟩
theorem fromDur64_any (d : Int) (h0 : -9223372036854775808 ≤ d) (h1 : d ≤ 9223372036854775807) (w : World) : Calls Try.prog 58 #[.int .i64 d] w fun e w' => e = .returned (.int .i64 (nrm (msOf d))) ∧ w = w' := by
  go_enter Try.func58, Try.ntmps58
  go_wp2_with (go_at_call 80; refine (fromDur_any _ h0 h1 _).mono ?_; rintro e w' ⟨rfl, rfl⟩)
  go_ret
  exact ⟨rfl, rfl⟩
theorem timeOfDur_any (d : Int) (h0 : -9223372036854775808 ≤ d) (h1 : d ≤ 9223372036854775807) (w : World) : Calls Try.prog 34 #[.int .i64 d] w fun e w' => e = .returned (.int .i64 (nrm (msOf d))) ∧ w = w' := by
  go_enter Try.func34, Try.ntmps34
  go_wp2_with (go_at_call 58; refine (fromDur64_any _ h0 h1 _).mono ?_; rintro e w' ⟨rfl, rfl⟩)
  go_ret
  exact ⟨rfl, rfl⟩
theorem fromMs_any (t : Int) (w : World) : Calls Try.prog 57 #[.int .i64 t] w fun e w' => e = .returned (.int .i64 (nrm t)) ∧ w = w' := by
  go_enter Try.func57, Try.ntmps57
  go_wp2_with (go_at_call 54; refine (norm_any _ _).mono ?_; rintro e w' ⟨rfl, rfl⟩)
  go_ret
  exact ⟨rfl, rfl⟩
theorem timeOfMs_any (t : Int) (w : World) : Calls Try.prog 33 #[.int .i64 t] w fun e w' => e = .returned (.int .i64 (nrm t)) ∧ w = w' := by
  go_enter Try.func33, Try.ntmps33
  go_wp2_with (go_at_call 57; refine (fromMs_any _ _).mono ?_; rintro e w' ⟨rfl, rfl⟩)
  go_ret
  exact ⟨rfl, rfl⟩
theorem timeNorm_any (t : Int) (w : World) : Calls Try.prog 29 #[.int .i64 t] w fun e w' => e = .returned (.int .i64 (nrm t)) ∧ w = w' := by
  go_enter Try.func29, Try.ntmps29
  go_wp2_with (go_at_call 54; refine (norm_any _ _).mono ?_; rintro e w' ⟨rfl, rfl⟩)
  go_ret
  exact ⟨rfl, rfl⟩
theorem timeMax_any (a b : Int) (w : World) : Calls Try.prog 31 #[.int .i64 a, .int .i64 b] w fun e w' => e = .returned (.int .i64 (mx a b)) ∧ w = w' := by
  go_enter Try.func31, Try.ntmps31
  go_wp2_with (go_at_call 55; refine (max_any _ _ _).mono ?_; rintro e w' ⟨rfl, rfl⟩)
  go_ret
  exact ⟨rfl, rfl⟩
theorem timeMin_any (a b : Int) (w : World) : Calls Try.prog 32 #[.int .i64 a, .int .i64 b] w fun e w' => e = .returned (.int .i64 (mn a b)) ∧ w = w' := by
  go_enter Try.func32, Try.ntmps32
  go_wp2_with (go_at_call 56; refine (min_any _ _ _).mono ?_; rintro e w' ⟨rfl, rfl⟩)
  go_ret
  exact ⟨rfl, rfl⟩
theorem msMethod_any (t : Int) (w : World) : Calls Try.prog 59 #[.int .i64 t] w fun e w' => e = .returned (.int .i64 t) ∧ w = w' := by
  go_enter Try.func59, Try.ntmps59
  go_wp2
  go_ret
  exact ⟨rfl, rfl⟩
theorem timeMs_any (t : Int) (w : World) : Calls Try.prog 35 #[.int .i64 t] w fun e w' => e = .returned (.int .i64 (t)) ∧ w = w' := by
  go_enter Try.func35, Try.ntmps35
  go_wp2_with (go_at_call 59; refine (msMethod_any _ _).mono ?_; rintro e w' ⟨rfl, rfl⟩)
  go_ret
  exact ⟨rfl, rfl⟩
/-- The reference's cut. -/
theorem timeIn_any (t : Int) (w : World) : Calls Try.prog 30 #[.int .i64 t] w fun e w' => e = .returned (.int .i64 (nrm t)) ∧ w = w' := by
  rcases (show t < -9223372036854775 ∨ (-9223372036854775 ≤ t ∧ t ≤ 9223372036854775) ∨ 9223372036854775 < t from by omega) with h | ⟨h, h'⟩ | h
  · go_enter Try.func30, Try.ntmps30
    go_wp2
    all_goals
      go_ret
      exact ⟨ret_int (by unfold nrm; rw [if_pos h]), rfl⟩
  · go_enter Try.func30, Try.ntmps30
    go_wp2
    all_goals
      go_ret
      exact ⟨ret_int (by unfold nrm; rw [if_neg (by omega), if_neg (by omega)]; try omega), rfl⟩
  · go_enter Try.func30, Try.ntmps30
    go_wp2
    all_goals
      go_ret
      exact ⟨ret_int (by unfold nrm; rw [if_neg (by omega), if_pos h]), rfl⟩
def isT (t : Int) : Bool := decide (-9223372036854775 ≤ t) && decide (t ≤ 9223372036854775)
theorem isT_iff {t : Int} : isT t = true ↔ -9223372036854775 ≤ t ∧ t ≤ 9223372036854775 := by simp [isT]
theorem isTime_any (t : Int) (w : World) : Calls Try.prog 24 #[.int .i64 t] w fun e w' => e = .returned (.bool (isT t)) ∧ w = w' := by
  by_cases h1 : -9223372036854775 ≤ t
  · by_cases h2 : t ≤ 9223372036854775
    · go_enter Try.func24, Try.ntmps24
      go_wp2
      go_ret
      exact ⟨ret_bool (by rw [isT_iff.2 ⟨h1, h2⟩]), rfl⟩
    · go_enter Try.func24, Try.ntmps24
      go_wp2
      go_ret
      exact ⟨ret_bool (by unfold isT; simp; omega), rfl⟩
  · go_enter Try.func24, Try.ntmps24
    go_wp2
    go_ret
    exact ⟨ret_bool (by unfold isT; simp; omega), rfl⟩
theorem moved_f (t d : Int) (h0 : -9223372036854775808 ≤ d) (h1 : d ≤ 9223372036854775807) (h2 : -4611686018427387904 ≤ t) (h3 : t ≤ 4611686018427387904) (w : World) : Calls Try.prog 26 #[.int .i64 t, .int .i64 d, .bool false] w fun e w' => e = .returned (.int .i64 (nrm (t + msOf d))) ∧ w = w' := by
  have hb := msOf_bd h0 h1
  unfold msOf at hb
  have hw := IntWalk.wrap64_in (d.tdiv 1000000) (by omega)
  go_enter Try.func26, Try.ntmps26
  go_wp2_with (go_at_call 30; refine (timeIn_any _ _).mono ?_; rintro e w' ⟨rfl, rfl⟩)
  go_ret
  exact ⟨rfl, rfl⟩
theorem moved_t (t d : Int) (h0 : -9223372036854775808 ≤ d) (h1 : d ≤ 9223372036854775807) (h2 : -4611686018427387904 ≤ t) (h3 : t ≤ 4611686018427387904) (w : World) : Calls Try.prog 26 #[.int .i64 t, .int .i64 d, .bool true] w fun e w' => e = .returned (.int .i64 (nrm (t - msOf d))) ∧ w = w' := by
  have hb := msOf_bd h0 h1
  unfold msOf at hb
  have hw := IntWalk.wrap64_in (d.tdiv 1000000) (by omega)
  go_enter Try.func26, Try.ntmps26
  go_wp2_with (go_at_call 30; refine (timeIn_any _ _).mono ?_; rintro e w' ⟨rfl, rfl⟩)
  go_ret
  exact ⟨ret_int (by rw [show t - msOf d = t + -(d.tdiv 1000000) from by unfold msOf; omega]), rfl⟩
end Go.Proofs.Ytdifeleddhefnaa
