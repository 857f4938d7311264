/- The law of a timer's domain: the map that a timer tells has its family with its domain. -/
import Derived.Test.YtoigekmdicepnaaTk
import Derived.Maps.Own
import Derived.Maps.OwnOps
import Derived.Maps.Views
set_option linter.unusedVariables false
set_option linter.unusedSimpArgs false
namespace Go.Proofs.Ytoigekmdicepnaa
open Go.RowKit Go.Maps Go.WideMaps Go.Proofs.YtoigekmdicepnaaW.PrintWords Go.Proofs.YtoigekmdicepnaaW.PrintLast Go.Proofs.YtoigekmdicepnaaW.PrintMore

theorem law9 : Keyed Try.prog 9 := string_keyed Try.underlying9
theorem zero123 (w : World) : (zeroValue 123).run Try.prog w = .ok (.int .i32 0) w := by kernel_rfl
/-- A map with one entry. -/
def One (w : World) (B : Nat) (s : ByteArray) (d : Int) : Prop := w.ownsMap Try.prog 9 (plainElem (H := Unit) Try.prog 123) B 1 ((DataW.map []).put (.string s.data.toList) (.lit (.int .i32 d)))
theorem one_at {w : World} {B : Nat} {s : ByteArray} {d : Int} (h : One w B s d) (hs : s.size ≤ maxLen) : (Instr.lookup 124 (.map (some B)) (.string s) false).run Try.prog w = .ok (.int .i32 d) w := by
  have hkey : keyOf Try.prog 9 (.string s) = some (.string s.data.toList) := keyOf_string_mk Try.underlying9 hs
  obtain ⟨c, hrun, hat, _⟩ := World.ownsMap.lookup_int h law9 Try.underlying124 Try.underlying123 (zero123 _) hkey
  rw [atKey_put_same ⟨[], rfl⟩ (law9.key hkey)] at hat
  simp only [DataW.lit.injEq, Lit.int.injEq, true_and] at hat
  subst hat
  exact hrun

set_option maxRecDepth 100000 in
theorem ptTimers_any (s : ByteArray) (hs : s.size ≤ maxLen) (w : World) : Calls Try.prog 56 #[.agg #[.string s]] w fun e w' => ∃ B, e = .returned (.map (some B)) ∧ One w' B s 2 ∧ Below w.heap.size w w' := by
  have hkey : keyOf Try.prog 9 (.string s) = some (.string s.data.toList) := keyOf_string_mk Try.underlying9 hs
  have hmm := @run_makeMap Try.prog
  have hown := World.ownsMap_made (w.alloc (.cells #[.string s] 117)) Try.prog 9 (plainElem (H := Unit) Try.prog 123)
  rw [World.size_alloc] at hown
  obtain ⟨w1, hrun, hown1, hgrow1⟩ := hown.update law9 Try.underlying124 (by decide) hkey (plainElem_int (H := Unit) Try.underlying123 (q := .i32) (a := 2) (by decide))
  have HO := Aside0.mk hown1
  have HB := Aside0.mk (pw_below_grown (below_alloc (below_alloc (Below.refl w.heap.size w) (.cells #[.string s] 117)) (.map #[] 0)) _ (by simp only [World.size_alloc]; omega) hgrow1 (fun k hk => by cases hk; omega))
  clear hown hown1 hgrow1 hkey hs
  go_enter Try.func56, Try.ntmps56
  go_wp2
  go_ret
  exact ⟨_, rfl, HO.out, HB.out⟩

set_option maxRecDepth 100000 in
theorem etTimers_any (s : ByteArray) (hs : s.size ≤ maxLen) (w : World) : Calls Try.prog 57 #[.agg #[.string s]] w fun e w' => ∃ B, e = .returned (.map (some B)) ∧ One w' B s 1 ∧ Below w.heap.size w w' := by
  have hkey : keyOf Try.prog 9 (.string s) = some (.string s.data.toList) := keyOf_string_mk Try.underlying9 hs
  have hmm := @run_makeMap Try.prog
  have hown := World.ownsMap_made (w.alloc (.cells #[.string s] 115)) Try.prog 9 (plainElem (H := Unit) Try.prog 123)
  rw [World.size_alloc] at hown
  obtain ⟨w1, hrun, hown1, hgrow1⟩ := hown.update law9 Try.underlying124 (by decide) hkey (plainElem_int (H := Unit) Try.underlying123 (q := .i32) (a := 1) (by decide))
  have HO := Aside0.mk hown1
  have HB := Aside0.mk (pw_below_grown (below_alloc (below_alloc (Below.refl w.heap.size w) (.cells #[.string s] 115)) (.map #[] 0)) _ (by simp only [World.size_alloc]; omega) hgrow1 (fun k hk => by cases hk; omega))
  clear hown hown1 hgrow1 hkey hs
  go_enter Try.func57, Try.ntmps57
  go_wp2
  go_ret
  exact ⟨_, rfl, HO.out, HB.out⟩

set_option maxRecDepth 100000 in
theorem timerDomain_any (p : Bool) (s : ByteArray) (hs : s.size ≤ maxLen) (w : World) : Calls Try.prog 23 #[.bool p, .string s] w fun e w' => e = .returned (.int .i64 (if p then 2 else 1)) ∧ Below w.heap.size w w' := by
  have HS := Aside0.mk hs
  clear hs
  cases p
  · go_enter Try.func23, Try.ntmps23
    go_wp2_with (first | (go_at_call 48; refine (inE_any s _).mono ?_; rintro e w1 ⟨rfl, hb⟩; have HB1 := Aside0.mk hb; clear hb) | (go_at_call 57; refine (etTimers_any s HS.out _).mono ?_; rintro e w2 ⟨B, rfl, h1, hb⟩; have hrun := one_at h1 HS.out; have HB2 := Aside0.mk (below_then HB1.out HB1.out.size hb); clear h1 hb))
    go_ret
    exact ⟨rfl, HB2.out⟩
  · go_enter Try.func23, Try.ntmps23
    go_wp2_with (first | (go_at_call 49; refine (inP_any s _).mono ?_; rintro e w1 ⟨rfl, hb⟩; have HB1 := Aside0.mk hb; clear hb) | (go_at_call 56; refine (ptTimers_any s HS.out _).mono ?_; rintro e w2 ⟨B, rfl, h1, hb⟩; have hrun := one_at h1 HS.out; have HB2 := Aside0.mk (below_then HB1.out HB1.out.size hb); clear h1 hb))
    go_ret
    exact ⟨rfl, HB2.out⟩
set_option maxRecDepth 100000 in
theorem timerDomainLaw_walk (s : ByteArray) (hs : s.size ≤ 140737488351232) (w : World) : Calls Try.prog 5 #[.string s] w fun e w' => e = .returned (.bool true) ∧ Below w.heap.size w w' := by
  have HS := Aside0.mk (show s.size ≤ maxLen by unfold maxLen; omega)
  by_cases h1 : 2147483647 < s.size
  · have d1 : decide (2147483647 < (s.size : Int)) = true := decide_eq_true (by omega)
    have d2 : decide (2147483647 < s.size) = true := decide_eq_true h1
    clear h1 hs
    go_enter Try.func5, Try.ntmps5
    go_wp2
    go_ret
    exact ⟨rfl, Below.refl _ _⟩
  · have d1 : decide (2147483647 < (s.size : Int)) = false := decide_eq_false (by omega)
    have d2 : decide (2147483647 < s.size) = false := decide_eq_false h1
    by_cases h2 : 20 < s.size
    · have d3 : decide (20 < (s.size : Int)) = true := decide_eq_true (by omega)
      have d4 : decide (20 < s.size) = true := decide_eq_true h2
      clear h1 h2 hs
      go_enter Try.func5, Try.ntmps5
      go_wp2_with (go_at_call 20; refine (timerAwake_any _).mono ?_; rintro e_ w9 ⟨rfl, hb9⟩)
      go_ret
      exact ⟨rfl, hb9⟩
    · have d3 : decide (20 < (s.size : Int)) = false := decide_eq_false (by omega)
      have d4 : decide (20 < s.size) = false := decide_eq_false h2
      clear h1 h2 hs
      go_enter Try.func5, Try.ntmps5
      go_wp2_with (first
        | (go_at_call 23; have hmark := HB1; refine (timerDomain_any true s HS.out _).mono ?_; rintro e w2 ⟨rfl, hb⟩; have HB2 := Aside0.mk (below_then HB1.out HB1.out.size hb); clear hb hmark)
        | (go_at_call 23; refine (timerDomain_any false s HS.out _).mono ?_; rintro e w1 ⟨rfl, hb⟩; have HB1 := Aside0.mk hb; clear hb)
        | (go_at_call 20; refine (timerAwake_any _).mono ?_; rintro e_ w9 ⟨rfl, hb9⟩))
      go_ret
      exact ⟨rfl, below_then HB2.out HB2.out.size hb9⟩
end Go.Proofs.Ytoigekmdicepnaa
