/- Contracts: the last time of a window, and whether two are the same. -/
import Derived.Test.YtdifeleddhefnaaWin
import Derived.Handy
set_option linter.unusedVariables false
set_option linter.unusedSimpArgs false
namespace Go.Proofs.Ytdifeleddhefnaa
open Go.RowKit Go.Proofs.YtdifeleddhefnaaW.PrintWords

/-- The last time of a window. -/
def lst (x : Sp) : Int := if x.g then 9223371950454775 else x.e - 1
theorem gMax_any (w : World) : Calls Try.prog 117 #[.agg #[]] w fun e w' => e = .returned (.int .i64 9223371950454775) ∧ Below w.heap.size w w' := by
  go_enter Try.func117, Try.ntmps117
  go_wp2
  go_ret
  exact ⟨rfl, (by repeat (first | exact Below.refl _ _ | (with_reducible exact HB.out) | exact HB.out | apply below_alloc | apply below_drew | apply pw_below_drewN | refine below_set ?_ (by simp) | (refine Below.setCell ?_ (by simp) _)))⟩
theorem iMax_any (s e : Int) (h0 : -9000000000000000000 ≤ e) (h1 : e ≤ 9223372036854775807) (w : World) : Calls Try.prog 120 #[.agg #[.int .i64 s, .int .i64 e]] w fun e' w' => e' = .returned (.int .i64 (e - 1)) ∧ Below w.heap.size w w' := by
  go_enter Try.func120, Try.ntmps120
  go_wp2
  go_ret
  exact ⟨rfl, (by repeat (first | exact Below.refl _ _ | (with_reducible exact HB.out) | exact HB.out | apply below_alloc | apply below_drew | apply pw_below_drewN | refine below_set ?_ (by simp) | (refine Below.setCell ?_ (by simp) _)))⟩
theorem winMax_any (x : Sp) (h0 : -9000000000000000000 ≤ x.e) (h1 : x.e ≤ 9223372036854775807) (w : World) : Calls Try.prog 36 #[.agg #[.bool x.g, .int .i64 x.s, .int .i64 x.e]] w fun e w' => e = .returned (.int .i64 (lst x)) ∧ Below w.heap.size w w' := by
  obtain ⟨g, s, e⟩ := x
  simp only at h0 h1
  cases g
  · go_enter Try.func36, Try.ntmps36
    go_wp2_with (first
      | (go_at_call 60; refine (win_any ⟨false, s, e⟩ _).mono ?_; rintro e' w1 ⟨rfl, hb⟩; have HB := Aside0.mk ((below_alloc (Below.refl w.heap.size w) _).trans (hb.mono (by simp))); clear hb; rw [show ifv ⟨false, s, e⟩ = .iface 107 (.agg #[.int .i64 s, .int .i64 e]) from rfl])
      | (go_at_call 120; refine (iMax_any s e h0 h1 _).mono ?_; rintro e' w2 ⟨rfl, hb⟩; have n1 := Aside0.mk (below_then HB.out HB.out.size hb); clear hb HB; have HB := n1; clear n1))
    go_ret
    exact ⟨rfl, HB.out⟩
  · go_enter Try.func36, Try.ntmps36
    go_wp2_with (first
      | (go_at_call 60; refine (win_any ⟨true, s, e⟩ _).mono ?_; rintro e' w1 ⟨rfl, hb⟩; have HB := Aside0.mk ((below_alloc (Below.refl w.heap.size w) _).trans (hb.mono (by simp))); clear hb; rw [show ifv ⟨true, s, e⟩ = .iface 105 (.agg #[]) from rfl])
      | (go_at_call 117; refine (gMax_any _).mono ?_; rintro e' w2 ⟨rfl, hb⟩; have n1 := Aside0.mk (below_then HB.out HB.out.size hb); clear hb HB; have HB := n1; clear n1))
    go_ret
    exact ⟨rfl, HB.out⟩
/-- Whether two windows are the same: both the global one, or of one start and end. -/
def sameW (x y : Sp) : Bool := decide (nz x = nz y)
theorem tb107 (s e : Int) : ∀ W : World, (Instr.typeAssert (.iface 107 (.agg #[.int .i64 s, .int .i64 e])) 73 105 true).run Try.prog W = .ok (.tuple #[.agg #[], .bool false]) W := fun _ => by kernel_rfl
theorem tb105 : ∀ W : World, (Instr.typeAssert (.iface 105 (.agg #[])) 73 105 true).run Try.prog W = .ok (.tuple #[.agg #[], .bool true]) W := fun _ => by kernel_rfl
theorem gEq_any (y : Sp) (w : World) : Calls Try.prog 116 #[.agg #[], ifv y] w fun e w' => e = .returned (.bool y.g) ∧ Below w.heap.size w w' := by
  obtain ⟨g, s, e⟩ := y
  cases g
  · rw [show ifv ⟨false, s, e⟩ = .iface 107 (.agg #[.int .i64 s, .int .i64 e]) from rfl]
    have hta := tb107 s e
    go_enter Try.func116, Try.ntmps116
    go_wp2
    go_ret
    exact ⟨rfl, (by repeat (first | exact Below.refl _ _ | (with_reducible exact HB.out) | exact HB.out | apply below_alloc | apply below_drew | apply pw_below_drewN | refine below_set ?_ (by simp) | (refine Below.setCell ?_ (by simp) _)))⟩
  · rw [show ifv ⟨true, s, e⟩ = .iface 105 (.agg #[]) from rfl]
    have hta := tb105
    go_enter Try.func116, Try.ntmps116
    go_wp2
    go_ret
    exact ⟨rfl, (by repeat (first | exact Below.refl _ _ | (with_reducible exact HB.out) | exact HB.out | apply below_alloc | apply below_drew | apply pw_below_drewN | refine below_set ?_ (by simp) | (refine Below.setCell ?_ (by simp) _)))⟩
theorem iEq_any (s e : Int) (y : Sp) (w : World) : Calls Try.prog 119 #[.agg #[.int .i64 s, .int .i64 e], ifv y] w fun e' w' => e' = .returned (.bool (!y.g && (s == y.s && e == y.e))) ∧ Below w.heap.size w w' := by
  obtain ⟨g, s', e'⟩ := y
  cases g
  · rw [show ifv ⟨false, s', e'⟩ = .iface 107 (.agg #[.int .i64 s', .int .i64 e']) from rfl]
    have hta := ta107 s' e'
    by_cases hs : s = s'
    · subst hs
      go_enter Try.func119, Try.ntmps119
      go_wp2
      go_ret
      exact ⟨ret_bool (by simp), (by repeat (first | exact Below.refl _ _ | (with_reducible exact HB.out) | exact HB.out | apply below_alloc | apply below_drew | apply pw_below_drewN | refine below_set ?_ (by simp) | (refine Below.setCell ?_ (by simp) _)))⟩
    · go_enter Try.func119, Try.ntmps119
      go_wp2
      go_ret
      exact ⟨ret_bool (by simp [hs]), (by repeat (first | exact Below.refl _ _ | (with_reducible exact HB.out) | exact HB.out | apply below_alloc | apply below_drew | apply pw_below_drewN | refine below_set ?_ (by simp) | (refine Below.setCell ?_ (by simp) _)))⟩
  · rw [show ifv ⟨true, s', e'⟩ = .iface 105 (.agg #[]) from rfl]
    have hta := ta105
    go_enter Try.func119, Try.ntmps119
    go_wp2
    go_ret
    exact ⟨ret_bool (by simp), (by repeat (first | exact Below.refl _ _ | (with_reducible exact HB.out) | exact HB.out | apply below_alloc | apply below_drew | apply pw_below_drewN | refine below_set ?_ (by simp) | (refine Below.setCell ?_ (by simp) _)))⟩
end Go.Proofs.Ytdifeleddhefnaa
