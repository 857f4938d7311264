/- The statement FnWinLast: for every input the call answers true, and the input reads as it did; the listed variables start as the program's text lays them. -/
import Derived.Test.YtdifeleddhefnaaDoorLd
import Derived.Test.YtdifeleddhefnaaDoorCards
import Derived.Test.YtdifeleddhefnaaDoorTie
import Derived.Test.YtdifeleddhefnaaDoorTy
import Derived.WalkKit
import Derived.ProofKit
import Derived.OpenShut
import Derived.ShutString
import Derived.ChangeOld
import Derived.Below
import Derived.SizedLaws
import Derived.Lib.SmallJoins
import Derived.LaidMore
import Derived.Stop.Joined
import Derived.SevenTiedAt
namespace Go.Proofs.YtdifeleddhefnaaDoor.fnWinLast
open Go.ChangeShapes Go.WideShapes Go.ChangeAt Go.RowKit Go.Joins
open Go.ChangeMaps (open_string shut_string)
set_option linter.unusedVariables false
set_option maxRecDepth 100000 in
theorem lifted (os : Os) (started : os.Started) (H : Type) (enc : TypeId × Value → H) :
    ReturnsInHanded {} Tryd.checked os 4 .any (fun w args => (Rows.fnWinLastSpec.pre enc Tryd.prog Tryd.f4 Rows.fnWinLastRow.domain false w args ∧ laidMetH Tryd.prog laid2 w) ∧ sizedMet enc Tryd.prog Tryd.f4 (OpenSpec.ofChange Rows.fnWinLastSpec) false w args)
      (Rows.fnWinLastSpec.post enc Tryd.prog Tryd.f4 false true false false) := by
  refine returnsInHanded_of_change_and (C := Tryd.checked) (X := fun w _ => laidMetH Tryd.prog laid2 w) (fun _ _ _ hh h => h.of_heap hh) own started (by kernel_rfl) Tryd.func4
    (ChangeSpec.witness_shaped (enc := enc) (C := Tryd.checked) (os := os) (X := fun w _ => laidMetH Tryd.prog laid2 w) false (World.doorLaid Tryd.prog 400 os) #[.agg #[.bool false, .int .i64 0, .int .i64 0]] 8 rfl (World.shaped_of_RefB (by kernel_rfl) (by kernel_rfl)) (by kernel_rfl) (by kernel_rfl) (by kernel_rfl) (door_met os _)) ?_
  intro W base args ds gs before hval0 hW _ hsz0 hL _
  have hsz : (DataW.weightsEach Tryd.prog (Tryd.f4.params.toList ++ Rows.fnWinLastSpec.plain.varTypes Tryd.prog) (ds ++ gs)).all (· ≤ reachBytes) = true := hsz0
  have hval : ∀ (j : Nat) t v, Tryd.f4.params[j]? = some t → args[j]? = some v → Value.okWide Tryd.prog W .any base t v := hval0
  have hW' := hW
  obtain ⟨p, q, hA0, hV, rfl, hfz, hnd⟩ := hW
  have hA : DataW.TrodAll enc Tryd.prog W 0 (fun _ => true) true Tryd.f4.params.toList args.toList ds p := hA0
  rw [Tryd.params4] at hA hval hsz
  obtain ⟨v0, vs0, d0, ds0, p0, q0, hargs, rfl, rfl, h0, r0⟩ := trodAll_cons hA
  obtain ⟨rfl, rfl, rfl⟩ := trodAll_nil r0
  obtain rfl : args = #[v0] := by cases args; simp_all
  obtain ⟨rfl, rfl⟩ := trodVars_none hV
  have k0 := h0
  have lt0 : ∀ x ∈ p0, x.block < W.heap.size := by obtain ⟨m, hm⟩ := k0; exact DataW.trod_lt m _ _ _ hm
  obtain ⟨c0_0, c0_1, c0_2, y0_0, y0_1, y0_2, m0, rfl, rfl, rfl, g0_0, g0_1, g0_2⟩ := open_agg3 Tryd.underlying26 (by kernel_rfl) (by kernel_rfl) (hval 0 26 v0 rfl rfl) h0
  obtain ⟨a0_0, e0_0, rfl⟩ := DataW.trod_bool Tryd.underlying4 g0_0
  simp only [List.cons.injEq, and_true] at e0_0
  subst e0_0
  obtain ⟨a0_1, e0_1, rfl, w0_1⟩ := DataW.trod_int Tryd.underlying2 g0_1
  simp only [List.cons.injEq, and_true] at e0_1
  subst e0_1
  obtain ⟨a0_2, e0_2, rfl, w0_2⟩ := DataW.trod_int Tryd.underlying2 g0_2
  simp only [List.cons.injEq, and_true] at e0_2
  subst e0_2
  have htab := tab_of_laid hL
  clear hA0 hval0 hsz0 hsz
  refine (lastLaw_walk a0_0 a0_1 a0_2 W htab).mono fun e W' ⟨he, bel⟩ => ?_
  subst he
  exact ⟨_, rfl, _, _, _, [], _, [], hW', trodAll_mk1 (shut_bool Tryd.underlying4 _), (trodAll_cons_mk (Below.trod laidOut (by kernel_rfl) (of_decide_eq_true (by kernel_rfl)) k0 bel lt0) trodAll_mk0), rfl, bel.frame _, fun h => by cases h⟩
theorem over : Rows.fnWinLastRow.holds Tryd.pinned (OpenSpec.ofChange Rows.fnWinLastSpec) :=
  OpenClaim.holds_of_wide 4 Tryd.f4 rfl rfl rfl rfl rfl rfl rfl ⟨rfl, rfl, rfl, rfl, rfl⟩ rfl rfl rfl rfl rfl (by kernel_rfl) Tryd.func4 (by kernel_rfl)
    (of_decide_eq_true (by kernel_rfl)) (by unfold Func.isWrapper; first | (rw [if_pos (by decide +kernel)]; kernel_rfl) | (rw [if_neg (by decide +kernel)]; exact ⟨rfl, rfl⟩))
    (fun os started H enc _ => lifted os started H enc)
theorem proved : Rows.FnWinLastCardSaid :=
  Claim7.holds_tied_plain_at .later [] [.data, .data, .data] true (true, "3a9c62b81463a22c3319241159fa594d08110962d19add31f613e875d04a22cc") true
    over (fun _ h => by cases h) (by kernel_rfl) (fun _ h => by cases h) fnWinLast_row_tie rfl ⟨rfl, rfl⟩ (by kernel_rfl) rfl
    (fun f fn hf hfn => by
      obtain rfl : f = 4 := Option.some.inj ((show Tryd.prog.funcNamed "pub-tailwater/laws.FnWinLast" = some 4 by kernel_rfl).symm.trans hf) |>.symm
      obtain rfl : fn = Tryd.f4 := (Option.some.inj (Tryd.func4.symm.trans hfn)).symm
      exact ⟨by kernel_rfl, fun j t ht => by
        rw [Tryd.params4] at ht
        rcases j with _ | j
        · obtain rfl := Option.some.inj (show some _ = some t from ht)
          exact (show Tryd.prog.wantsStandIn 26 = false by kernel_rfl)
        simp at ht⟩)
    (by kernel_rfl)
#print axioms proved
end Go.Proofs.YtdifeleddhefnaaDoor.fnWinLast
