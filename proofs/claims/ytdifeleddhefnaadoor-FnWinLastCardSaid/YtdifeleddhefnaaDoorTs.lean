/- Contracts: the text of a time and of a window. -/
import Derived.Test.YtdifeleddhefnaaDoorDg
import Derived.Test.YtdifeleddhefnaaDoorSh
import Derived.Test.YtdifeleddhefnaaDoorAwake
import Derived.Lib.LaidTab
set_option linter.unusedVariables false
set_option linter.unusedSimpArgs false
namespace Go.Proofs.YtdifeleddhefnaaDoor
open Go.RowKit Go.Proofs.YtdifeleddhefnaaDoorW.PrintWords Go.Proofs.YtdifeleddhefnaaDoorW.PrintLast Go.Proofs.YtdifeleddhefnaaDoorW.PrintMore
/-- The table of the powers of ten, as the program's text lays it. -/
abbrev Tab (w : World) : Prop := Lib.TabIs Tryd.prog w "internal/strconv.uint64pow10" .u64 Lib.pow10Tab
theorem gP : Tryd.prog.globalNamed "internal/strconv.uint64pow10" = some 0 := by kernel_rfl
theorem tab_lt {w : World} (h : Tab w) : 0 < w.heap.size := World.block_lt_of_cell? w _ (h.cell gP 0 (by decide))
theorem tab_below {w w' : World} (h : Tab w) (hb : Below w.heap.size w w') : Tab w' := by
  have hl := tab_lt h
  unfold Tab Lib.TabIs at h ⊢
  rw [← h]
  simp only [World.var?, gP, Option.bind_some]
  rw [hb.block 0 hl]
theorem below_grew (w : World) (k : Nat) (os : Array Obj) : Below w.heap.size w (Sort.grow (w.drewN k) os) :=
  ⟨rfl, rfl, rfl, by simp [Sort.grow], fun i hi => by simp [Sort.grow, World.drewN, Array.getElem?_append_left hi]⟩
theorem timeStr_any (t : Int) (h0 : -9223372036854775 ≤ t) (h1 : t ≤ 9223372036854775) (w : World) (htab : Tab w) : Calls Tryd.prog 14 #[.int .i64 t] w fun e w' => e = .returned (.string (tt t)) ∧ Below w.heap.size w w' := by
  have HT := Aside0.mk htab
  clear htab
  obtain ⟨r, hr⟩ : ∃ r, tt t = r := ⟨_, rfl⟩
  rw [hr]
  unfold tt at hr
  by_cases e1 : t = -9223372036854775
  · rw [if_pos e1] at hr
    subst hr
    subst e1
    go_enter Tryd.func14, Tryd.ntmps14
    go_wp2
    go_ret
    exact ⟨rfl, Below.refl _ _⟩
  rw [if_neg e1] at hr
  by_cases e2 : t = 9223372036854775
  · rw [if_pos e2] at hr
    subst hr
    subst e2
    go_enter Tryd.func14, Tryd.ntmps14
    go_wp2
    go_ret
    exact ⟨rfl, Below.refl _ _⟩
  rw [if_neg e2] at hr
  by_cases e3 : t = 9223371950454775
  · rw [if_pos e3] at hr
    subst hr
    subst e3
    go_enter Tryd.func14, Tryd.ntmps14
    go_wp2
    go_ret
    exact ⟨rfl, Below.refl _ _⟩
  rw [if_neg e3] at hr
  have t1 : (t == -9223372036854775) = false := beq_eq_false_iff_ne.2 e1
  have t2 : (t == 9223372036854775) = false := beq_eq_false_iff_ne.2 e2
  have t3 : (t == 9223371950454775) = false := beq_eq_false_iff_ne.2 e3
  subst hr
  clear e1 e2 e3
  go_enter Tryd.func14, Tryd.ntmps14
  go_wp2_with (first
    | (go_at_call 22; refine (msMethod_any _ _).mono ?_; rintro e_ w1 ⟨rfl, rfl⟩)
    | (go_at_call 21; refine (Tryd.strconv_FormatInt_10 t (by omega) (by omega) _ HT.out).mono ?_; rintro e_ w2 ⟨rfl, k, os, rfl⟩))
  go_ret
  exact ⟨rfl, below_grew _ _ _⟩
theorem timeString_any (t : Int) (h0 : -9223372036854775 ≤ t) (h1 : t ≤ 9223372036854775) (w : World) (htab : Tab w) : Calls Tryd.prog 6 #[.int .i64 t] w fun e w' => e = .returned (.string (tt t)) ∧ Below w.heap.size w w' := by
  go_enter Tryd.func6, Tryd.ntmps6
  go_wp2_with (go_at_call 14; refine (timeStr_any t h0 h1 _ htab).mono ?_; rintro e_ w1 ⟨rfl, hb⟩)
  go_ret
  exact ⟨rfl, hb⟩
theorem timeText_any (t : Int) (h0 : -9223372036854775 ≤ t) (h1 : t ≤ 9223372036854775) (w : World) : Calls Tryd.prog 7 #[.int .i64 t] w fun e w' => e = .returned (.string (tt t)) ∧ Below w.heap.size w w' := by
  obtain ⟨k, hk⟩ := timeText_some t h0 h1
  exact PFnWinLast.spec_WinTimeText.calls k t _ w hk
theorem timeLaw_walk (t : Int) (w : World) (htab : Tab w) : Calls Tryd.prog 3 #[.int .i64 t] w fun e w' => e = .returned (.bool true) ∧ Below w.heap.size w w' := by
  cases hT : isT t
  · go_enter Tryd.func3, Tryd.ntmps3
    go_wp2_with (go_at_call 5; refine (isTime_any _ _).mono ?_; rintro e_ w1 ⟨rfl, rfl⟩; rw [hT])
    go_ret
    exact ⟨rfl, Below.refl _ _⟩
  · obtain ⟨h0, h1⟩ := isT_iff.1 hT
    have HT := Aside0.mk htab
    clear htab
    go_enter Tryd.func3, Tryd.ntmps3
    go_wp2_with (first
      | (go_at_call 5; refine (isTime_any _ _).mono ?_; rintro e_ w1 ⟨rfl, rfl⟩; rw [hT])
      | (go_at_call 6; refine (timeString_any t h0 h1 _ HT.out).mono ?_; rintro e_ w2 ⟨rfl, hb⟩; have HB := Aside0.mk hb; clear hb)
      | (go_at_call 7; refine (timeText_any t h0 h1 _).mono ?_; rintro e_ w3 ⟨rfl, hb⟩; have HB2 := Aside0.mk (below_then HB.out HB.out.size hb); clear hb)
      | (go_at_call 8; refine (awake_any _).mono ?_; rintro e_ w4 ⟨rfl, hb⟩; have HB3 := Aside0.mk (below_then HB2.out HB2.out.size hb); clear hb))
    go_ret
    exact ⟨rfl, HB3.out⟩
end Go.Proofs.YtdifeleddhefnaaDoor
