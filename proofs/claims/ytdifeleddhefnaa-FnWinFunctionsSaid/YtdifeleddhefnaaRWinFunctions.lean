/- The statement FnWinFunctions: for every input the call answers true, and the input reads as it did. -/
import Derived.Test.YtdifeleddhefnaaRows
import Derived.Test.YtdifeleddhefnaaLawF
import Derived.WalkKit
import Derived.ProofKit
import Derived.OpenShut
import Derived.ShutString
import Derived.ChangeOld
import Derived.Below
import Derived.SizedLaws
import Derived.Lib.SmallJoins
namespace Go.Proofs.Ytdifeleddhefnaa.fnWinFunctions
open Go.ChangeShapes Go.WideShapes Go.ChangeAt Go.RowKit Go.Joins
open Go.ChangeMaps (open_string shut_string)
set_option linter.unusedVariables false
theorem own : ownKnob Try.prog.godebug = none := by kernel_rfl
theorem laidOut : laidOutB Try.prog = true := by kernel_rfl
set_option maxRecDepth 100000 in
theorem lifted (os : Os) (started : os.Started) (H : Type) (enc : TypeId × Value → H) :
    ReturnsInHanded {} Try.checked os 16 .any (Rows.fnWinFunctionsSpec.pre6 enc Try.prog Try.f16 Rows.fnWinFunctionsRow.domain false) (Rows.fnWinFunctionsSpec.post enc Try.prog Try.f16 false true false false) := by
  refine returnsInHanded_of_change_sized (C := Try.checked) own started (by kernel_rfl) Try.func16
    (ChangeSpec.witness6 (enc := enc) (C := Try.checked) false ⟨#[], #[.agg #[.int .u8 0, .int .i64 0, .int .i64 0, .int .i64 0], .agg #[.int .u8 0, .int .i64 0, .int .i64 0, .int .i64 0]], []⟩ 8 (by kernel_rfl) (by kernel_rfl) (by kernel_rfl) (by kernel_rfl)) ?_
  intro W base args ds gs before hval0 hW hcnd hsz0 _
  have hsz : (DataW.weightsEach Try.prog (Try.f16.params.toList ++ Rows.fnWinFunctionsSpec.plain.varTypes Try.prog) (ds ++ gs)).all (· ≤ reachBytes) = true := hsz0
  have hval : ∀ (j : Nat) t v, Try.f16.params[j]? = some t → args[j]? = some v → Value.okWide Try.prog W .any base t v := hval0
  have hW' := hW
  obtain ⟨p, q, hA0, hV, rfl, hfz, hnd⟩ := hW
  have hA : DataW.TrodAll enc Try.prog W 0 (fun _ => true) true Try.f16.params.toList args.toList ds p := hA0
  rw [Try.params16] at hA hval hsz
  obtain ⟨v0, vs0, d0, ds0, p0, q0, hargs, rfl, rfl, h0, r0⟩ := trodAll_cons hA
  obtain ⟨v1, vs1, d1, ds1, p1, q1, rfl, rfl, rfl, h1, r1⟩ := trodAll_cons r0
  obtain ⟨rfl, rfl, rfl⟩ := trodAll_nil r1
  obtain rfl : args = #[v0, v1] := by cases args; simp_all
  obtain ⟨rfl, rfl⟩ := trodVars_none hV
  have k0 := h0
  have lt0 : ∀ x ∈ p0, x.block < W.heap.size := by obtain ⟨m, hm⟩ := k0; exact DataW.trod_lt m _ _ _ hm
  obtain ⟨c0_0, c0_1, c0_2, c0_3, y0_0, y0_1, y0_2, y0_3, m0, rfl, rfl, rfl, g0_0, g0_1, g0_2, g0_3⟩ := open_agg4 Try.underlying23 (by kernel_rfl) (by kernel_rfl) (hval 0 23 v0 rfl rfl) h0
  obtain ⟨a0_0, e0_0, rfl, w0_0⟩ := DataW.trod_int Try.underlying5 g0_0
  simp only [List.cons.injEq, and_true] at e0_0
  subst e0_0
  obtain ⟨a0_1, e0_1, rfl, w0_1⟩ := DataW.trod_int Try.underlying2 g0_1
  simp only [List.cons.injEq, and_true] at e0_1
  subst e0_1
  obtain ⟨a0_2, e0_2, rfl, w0_2⟩ := DataW.trod_int Try.underlying2 g0_2
  simp only [List.cons.injEq, and_true] at e0_2
  subst e0_2
  obtain ⟨a0_3, e0_3, rfl, w0_3⟩ := DataW.trod_int Try.underlying2 g0_3
  simp only [List.cons.injEq, and_true] at e0_3
  subst e0_3
  have k1 := h1
  have lt1 : ∀ x ∈ p1, x.block < W.heap.size := by obtain ⟨m, hm⟩ := k1; exact DataW.trod_lt m _ _ _ hm
  obtain ⟨c1_0, c1_1, c1_2, c1_3, y1_0, y1_1, y1_2, y1_3, m1, rfl, rfl, rfl, g1_0, g1_1, g1_2, g1_3⟩ := open_agg4 Try.underlying23 (by kernel_rfl) (by kernel_rfl) (hval 1 23 v1 rfl rfl) h1
  obtain ⟨a1_0, e1_0, rfl, w1_0⟩ := DataW.trod_int Try.underlying5 g1_0
  simp only [List.cons.injEq, and_true] at e1_0
  subst e1_0
  obtain ⟨a1_1, e1_1, rfl, w1_1⟩ := DataW.trod_int Try.underlying2 g1_1
  simp only [List.cons.injEq, and_true] at e1_1
  subst e1_1
  obtain ⟨a1_2, e1_2, rfl, w1_2⟩ := DataW.trod_int Try.underlying2 g1_2
  simp only [List.cons.injEq, and_true] at e1_2
  subst e1_2
  obtain ⟨a1_3, e1_3, rfl, w1_3⟩ := DataW.trod_int Try.underlying2 g1_3
  simp only [List.cons.injEq, and_true] at e1_3
  subst e1_3
  clear hA0 hval0 hsz0 hsz
  refine (winFunctions_walk a0_0 a0_1 a0_2 a0_3 a1_0 a1_1 a1_2 a1_3 w0_0 w0_1 w0_2 w0_3 w1_0 w1_1 w1_2 w1_3 W).mono fun e W' ⟨he, bel⟩ => ?_
  subst he
  exact ⟨_, rfl, _, _, _, [], _, [], hW', trodAll_mk1 (shut_bool Try.underlying4 _), (trodAll_cons_mk (Below.trod laidOut (by kernel_rfl) (of_decide_eq_true (by kernel_rfl)) k0 bel lt0) (trodAll_cons_mk (Below.trod laidOut (by kernel_rfl) (of_decide_eq_true (by kernel_rfl)) k1 bel lt1) trodAll_mk0)), rfl, bel.frame _, fun h => by cases h⟩
theorem over : Rows.fnWinFunctionsRow.holds Try.pinned (OpenSpec.ofChange Rows.fnWinFunctionsSpec) :=
  OpenClaim.holds_of_wide 16 Try.f16 rfl rfl rfl rfl rfl rfl rfl ⟨rfl, rfl, rfl, rfl, rfl⟩ rfl rfl rfl rfl rfl (by kernel_rfl) Try.func16 (by kernel_rfl)
    (of_decide_eq_true (by kernel_rfl)) (by unfold Func.isWrapper; first | (rw [if_pos (by decide +kernel)]; kernel_rfl) | (rw [if_neg (by decide +kernel)]; exact ⟨rfl, rfl⟩))
    (fun os started H enc _ => lifted os started H enc)
theorem proved : Rows.FnWinFunctionsSaid := over
#print axioms proved
end Go.Proofs.Ytdifeleddhefnaa.fnWinFunctions
