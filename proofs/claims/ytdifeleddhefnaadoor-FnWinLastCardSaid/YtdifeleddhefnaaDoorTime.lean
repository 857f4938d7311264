/- Contracts of package mtime's functions and of the reference's functions on times: each only reckons, no memory turns. -/
import Derived.Test.YtdifeleddhefnaaDoorProg
import Derived.WalkKit
import Derived.WalkSpells
import Derived.WalkLawsBesides
import Derived.Handy
namespace Go.Proofs.YtdifeleddhefnaaDoor
open Go.RowKit

theorem ret_int {k : IntKind} {a b : Int} (h : a = b) : Ending.returned (.int k a) = .returned (.int k b) := by rw [h]
theorem ret_bool {a b : Bool} (h : a = b) : Ending.returned (.bool a) = .returned (.bool b) := by rw [h]
def mx (a b : Int) : Int := if a < b then b else a
def mn (a b : Int) : Int := if a < b then a else b
/-- A time cut to the ends of time. -/
def nrm (t : Int) : Int := if t < -9223372036854775 then -9223372036854775 else if 9223372036854775 < t then 9223372036854775 else t
theorem nrm_in {t : Int} (h0 : -9223372036854775 ≤ t) (h1 : t ≤ 9223372036854775) : nrm t = t := by unfold nrm; rw [if_neg (by omega), if_neg (by omega)]
theorem nrm_bd (t : Int) : -9223372036854775 ≤ nrm t ∧ nrm t ≤ 9223372036854775 := by unfold nrm; split; omega; split <;> omega
theorem nrm_mx (t : Int) : mn (mx t (-9223372036854775)) 9223372036854775 = nrm t := by
  unfold nrm mn mx
  split <;> split <;> (try split) <;> (try split) <;> omega
/-- Whole milliseconds of nanoseconds, towards 0. -/
def msOf (d : Int) : Int := d.tdiv 1000000
theorem msOf_bd {d : Int} (h0 : -9223372036854775808 ≤ d) (h1 : d ≤ 9223372036854775807) : -9223372036854 ≤ msOf d ∧ msOf d ≤ 9223372036854 := by
  unfold msOf
  by_cases h : 0 ≤ d
  · rw [Int.tdiv_eq_ediv_of_nonneg h]; omega
  · obtain ⟨e, rfl⟩ : ∃ e, d = -e := ⟨-d, by omega⟩
    rw [Int.neg_tdiv, Int.tdiv_eq_ediv_of_nonneg (by omega)]; omega

theorem max_any (a b : Int) (w : World) : Calls Tryd.prog 53 #[.int .i64 a, .int .i64 b] w fun e w' => e = .returned (.int .i64 (mx a b)) ∧ w = w' := by
  by_cases h : a < b
  · go_enter Tryd.func53, Tryd.ntmps53
    go_wp2
    go_ret
    exact ⟨ret_int (by unfold mx; rw [if_pos h]), rfl⟩
  · go_enter Tryd.func53, Tryd.ntmps53
    go_wp2
    go_ret
    exact ⟨ret_int (by unfold mx; rw [if_neg (by omega)]), rfl⟩
theorem min_any (a b : Int) (w : World) : Calls Tryd.prog 41 #[.int .i64 a, .int .i64 b] w fun e w' => e = .returned (.int .i64 (mn a b)) ∧ w = w' := by
  by_cases h : a < b
  · go_enter Tryd.func41, Tryd.ntmps41
    go_wp2
    go_ret
    exact ⟨ret_int (by unfold mn; rw [if_pos h]), rfl⟩
  · go_enter Tryd.func41, Tryd.ntmps41
    go_wp2
    go_ret
    exact ⟨ret_int (by unfold mn; rw [if_neg (by omega)]), rfl⟩
theorem norm_any (t : Int) (w : World) : Calls Tryd.prog 46 #[.int .i64 t] w fun e w' => e = .returned (.int .i64 (nrm t)) ∧ w = w' := by
  go_enter Tryd.func46, Tryd.ntmps46
  go_wp2_with (first | (go_at_call 53; refine (max_any _ _ _).mono ?_; rintro e w' ⟨rfl, rfl⟩) | (go_at_call 41; refine (min_any _ _ _).mono ?_; rintro e w' ⟨rfl, rfl⟩))
  go_ret
  exact ⟨ret_int (nrm_mx t), rfl⟩
theorem millis_any (d : Int) (h0 : -9223372036854775808 ≤ d) (h1 : d ≤ 9223372036854775807) (w : World) : Calls Tryd.prog 47 #[.int .i64 d] w fun e w' => e = .returned (.int .i64 (msOf d)) ∧ w = w' := by
  have hb := msOf_bd h0 h1
  unfold msOf at hb
  go_enter Tryd.func47, Tryd.ntmps47
  go_wp2
  go_ret
  exact ⟨ret_int rfl, rfl⟩
theorem add_any (t d : Int) (h0 : -9223372036854775808 ≤ d) (h1 : d ≤ 9223372036854775807) (h2 : -4611686018427387904 ≤ t) (h3 : t ≤ 4611686018427387904) (w : World) : Calls Tryd.prog 34 #[.int .i64 t, .int .i64 d] w fun e w' => e = .returned (.int .i64 (nrm (t + msOf d))) ∧ w = w' := by
  have hb := msOf_bd h0 h1
  go_enter Tryd.func34, Tryd.ntmps34
  go_wp2_with (first | (go_at_call 47; refine (millis_any _ h0 h1 _).mono ?_; rintro e w' ⟨rfl, rfl⟩) | (go_at_call 46; refine (norm_any _ _).mono ?_; rintro e w' ⟨rfl, rfl⟩))
  go_ret
  exact ⟨rfl, rfl⟩
theorem sub_any (t d : Int) (h0 : -9223372036854775808 ≤ d) (h1 : d ≤ 9223372036854775807) (h2 : -4611686018427387904 ≤ t) (h3 : t ≤ 4611686018427387904) (w : World) : Calls Tryd.prog 42 #[.int .i64 t, .int .i64 d] w fun e w' => e = .returned (.int .i64 (nrm (t - msOf d))) ∧ w = w' := by
  have hb := msOf_bd h0 h1
  go_enter Tryd.func42, Tryd.ntmps42
  go_wp2_with (first | (go_at_call 47; refine (millis_any _ h0 h1 _).mono ?_; rintro e w' ⟨rfl, rfl⟩) | (go_at_call 46; refine (norm_any _ _).mono ?_; rintro e w' ⟨rfl, rfl⟩))
  go_ret
  exact ⟨rfl, rfl⟩
theorem add64_any (t d : Int) (h0 : -9223372036854775808 ≤ d) (h1 : d ≤ 9223372036854775807) (h2 : -4611686018427387904 ≤ t) (h3 : t ≤ 4611686018427387904) (w : World) : Calls Tryd.prog 26 #[.int .i64 t, .int .i64 d] w fun e w' => e = .returned (.int .i64 (nrm (t + msOf d))) ∧ w = w' := by
  go_enter Tryd.func26, Tryd.ntmps26
  go_wp2_with (go_at_call 34; refine (add_any _ _ h0 h1 h2 h3 _).mono ?_; rintro e w' ⟨rfl, rfl⟩)
  go_ret
  exact ⟨rfl, rfl⟩
theorem timeAdd_any (t d : Int) (h0 : -9223372036854775808 ≤ d) (h1 : d ≤ 9223372036854775807) (h2 : -4611686018427387904 ≤ t) (h3 : t ≤ 4611686018427387904) (w : World) : Calls Tryd.prog 17 #[.int .i64 t, .int .i64 d] w fun e w' => e = .returned (.int .i64 (nrm (t + msOf d))) ∧ w = w' := by
  go_enter Tryd.func17, Tryd.ntmps17
  go_wp2_with (go_at_call 26; refine (add64_any _ _ h0 h1 h2 h3 _).mono ?_; rintro e w' ⟨rfl, rfl⟩)
  go_ret
  exact ⟨rfl, rfl⟩
theorem fromDur_any (d : Int) (h0 : -9223372036854775808 ≤ d) (h1 : d ≤ 9223372036854775807) (w : World) : Calls Tryd.prog 40 #[.int .i64 d] w fun e w' => e = .returned (.int .i64 (nrm (msOf d))) ∧ w = w' := by
  go_enter Tryd.func40, Tryd.ntmps40
  go_wp2_with (go_at_call 34; refine (add_any _ _ h0 h1 (by omega) (by omega) _).mono ?_; rintro e w' ⟨rfl, rfl⟩)
  go_ret
  exact ⟨rfl, rfl⟩
theorem msMethod_any (t : Int) (w : World) : Calls Tryd.prog 22 #[.int .i64 t] w fun e w' => e = .returned (.int .i64 t) ∧ w = w' := by
  go_enter Tryd.func22, Tryd.ntmps22
  go_wp2
  go_ret
  exact ⟨rfl, rfl⟩
def isT (t : Int) : Bool := decide (-9223372036854775 ≤ t) && decide (t ≤ 9223372036854775)
theorem isT_iff {t : Int} : isT t = true ↔ -9223372036854775 ≤ t ∧ t ≤ 9223372036854775 := by simp [isT]
theorem isTime_any (t : Int) (w : World) : Calls Tryd.prog 5 #[.int .i64 t] w fun e w' => e = .returned (.bool (isT t)) ∧ w = w' := by
  by_cases h1 : -9223372036854775 ≤ t
  · by_cases h2 : t ≤ 9223372036854775
    · go_enter Tryd.func5, Tryd.ntmps5
      go_wp2
      go_ret
      exact ⟨ret_bool (by rw [isT_iff.2 ⟨h1, h2⟩]), rfl⟩
    · go_enter Tryd.func5, Tryd.ntmps5
      go_wp2
      go_ret
      exact ⟨ret_bool (by unfold isT; simp; omega), rfl⟩
  · go_enter Tryd.func5, Tryd.ntmps5
    go_wp2
    go_ret
    exact ⟨ret_bool (by unfold isT; simp; omega), rfl⟩
end Go.Proofs.YtdifeleddhefnaaDoor
