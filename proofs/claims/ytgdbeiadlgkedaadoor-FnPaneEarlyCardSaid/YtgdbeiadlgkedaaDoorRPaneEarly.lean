/- The statement FnPaneEarly: for every input the call answers true, and the input reads as it did; the listed variables start as the program's text lays them. -/
import Derived.Test.YtgdbeiadlgkedaaDoorLd
import Derived.Test.YtgdbeiadlgkedaaDoorCards
import Derived.Test.YtgdbeiadlgkedaaDoorTie
import Derived.Test.YtgdbeiadlgkedaaDoorPnG
import Derived.Test.YtgdbeiadlgkedaaDoorOa
import Derived.WalkKit
import Derived.ProofKit
import Derived.OpenShut
import Derived.ShutString
import Derived.ChangeOld
import Derived.Below
import Derived.SizedLaws
import Derived.Lib.SmallJoins
import Derived.LaidMore
import Derived.Stop.Joined
import Derived.SevenTiedAt
namespace Go.Proofs.YtgdbeiadlgkedaaDoor.fnPaneEarly
open Go.ChangeShapes Go.WideShapes Go.ChangeAt Go.RowKit Go.Joins
open Go.ChangeMaps (open_string shut_string)
set_option linter.unusedVariables false
set_option maxRecDepth 100000 in
theorem lifted (os : Os) (started : os.Started) (H : Type) (enc : TypeId × Value → H) :
    ReturnsInHanded {} Tryd.checked os 7 .any (fun w args => (Rows.fnPaneEarlySpec.pre enc Tryd.prog Tryd.f7 Rows.fnPaneEarlyRow.domain false w args ∧ laidMetH Tryd.prog laid2 w) ∧ sizedMet enc Tryd.prog Tryd.f7 (OpenSpec.ofChange Rows.fnPaneEarlySpec) false w args)
      (Rows.fnPaneEarlySpec.post enc Tryd.prog Tryd.f7 false true false false) := by
  refine returnsInHanded_of_change_and (C := Tryd.checked) (X := fun w _ => laidMetH Tryd.prog laid2 w) (fun _ _ _ hh h => h.of_heap hh) own started (by kernel_rfl) Tryd.func7
    (ChangeSpec.witness_shaped (enc := enc) (C := Tryd.checked) (os := os) (X := fun w _ => laidMetH Tryd.prog laid2 w) false (World.doorLaid Tryd.prog 400 os) #[.agg #[.int .i64 0, .bool false, .bool false, .int .i64 0, .int .i64 0]] 8 rfl (World.shaped_of_RefB (by kernel_rfl) (by kernel_rfl)) (by kernel_rfl) (by kernel_rfl) (by kernel_rfl) (door_met os _)) ?_
  intro W base args ds gs before hval0 hW _ hsz0 hL _
  have hsz : (DataW.weightsEach Tryd.prog (Tryd.f7.params.toList ++ Rows.fnPaneEarlySpec.plain.varTypes Tryd.prog) (ds ++ gs)).all (· ≤ reachBytes) = true := hsz0
  have hval : ∀ (j : Nat) t v, Tryd.f7.params[j]? = some t → args[j]? = some v → Value.okWide Tryd.prog W .any base t v := hval0
  have hW' := hW
  obtain ⟨p, q, hA0, hV, rfl, hfz, hnd⟩ := hW
  have hA : DataW.TrodAll enc Tryd.prog W 0 (fun _ => true) true Tryd.f7.params.toList args.toList ds p := hA0
  rw [Tryd.params7] at hA hval hsz
  obtain ⟨v0, vs0, d0, ds0, p0, q0, hargs, rfl, rfl, h0, r0⟩ := trodAll_cons hA
  obtain ⟨rfl, rfl, rfl⟩ := trodAll_nil r0
  obtain rfl : args = #[v0] := by cases args; simp_all
  obtain ⟨rfl, rfl⟩ := trodVars_none hV
  have k0 := h0
  have lt0 : ∀ x ∈ p0, x.block < W.heap.size := by obtain ⟨m, hm⟩ := k0; exact DataW.trod_lt m _ _ _ hm
  obtain ⟨c0_0, c0_1, c0_2, c0_3, c0_4, y0_0, y0_1, y0_2, y0_3, y0_4, m0, rfl, rfl, rfl, g0_0, g0_1, g0_2, g0_3, g0_4⟩ := open_agg5 Tryd.underlying24 (by kernel_rfl) (by kernel_rfl) (hval 0 24 v0 rfl rfl) h0
  obtain ⟨a0_0, e0_0, rfl, w0_0⟩ := DataW.trod_int Tryd.underlying2 g0_0
  simp only [List.cons.injEq, and_true] at e0_0
  subst e0_0
  obtain ⟨a0_1, e0_1, rfl⟩ := DataW.trod_bool Tryd.underlying4 g0_1
  simp only [List.cons.injEq, and_true] at e0_1
  subst e0_1
  obtain ⟨a0_2, e0_2, rfl⟩ := DataW.trod_bool Tryd.underlying4 g0_2
  simp only [List.cons.injEq, and_true] at e0_2
  subst e0_2
  obtain ⟨a0_3, e0_3, rfl, w0_3⟩ := DataW.trod_int Tryd.underlying2 g0_3
  simp only [List.cons.injEq, and_true] at e0_3
  subst e0_3
  obtain ⟨a0_4, e0_4, rfl, w0_4⟩ := DataW.trod_int Tryd.underlying2 g0_4
  simp only [List.cons.injEq, and_true] at e0_4
  subst e0_4
  obtain ⟨pe, pl, hE⟩ := env_of_laid hL
  clear hA0 hval0 hsz0 hsz
  refine (early_row pe pl a0_0 a0_1 a0_2 a0_3 a0_4 W hE).mono fun e W' ⟨he, bel⟩ => ?_
  subst he
  exact ⟨_, rfl, _, _, _, [], _, [], hW', trodAll_mk1 (shut_bool Tryd.underlying4 _), (trodAll_cons_mk (Below.trod laidOut (by kernel_rfl) (of_decide_eq_true (by kernel_rfl)) k0 bel lt0) trodAll_mk0), rfl, bel.frame _, fun h => by cases h⟩
theorem over : Rows.fnPaneEarlyRow.holds Tryd.pinned (OpenSpec.ofChange Rows.fnPaneEarlySpec) :=
  OpenClaim.holds_of_wide 7 Tryd.f7 rfl rfl rfl rfl rfl rfl rfl ⟨rfl, rfl, rfl, rfl, rfl⟩ rfl rfl rfl rfl rfl (by kernel_rfl) Tryd.func7 (by kernel_rfl)
    (of_decide_eq_true (by kernel_rfl)) (by unfold Func.isWrapper; first | (rw [if_pos (by decide +kernel)]; kernel_rfl) | (rw [if_neg (by decide +kernel)]; exact ⟨rfl, rfl⟩))
    (fun os started H enc _ => lifted os started H enc)
theorem proved : Rows.FnPaneEarlyCardSaid :=
  Claim7.holds_tied_plain_at .later [] [.sentinel, .sentinel] true (true, "127258a90722682ddef6ea14c6c2e607f63e7908fd4f93d5beaf3224290f49c6") true
    over (fun _ h => by cases h) (by kernel_rfl) (fun _ h => by cases h) fnPaneEarly_row_tie rfl ⟨rfl, rfl⟩ (by kernel_rfl) rfl
    (fun f fn hf hfn => by
      obtain rfl : f = 7 := Option.some.inj ((show Tryd.prog.funcNamed "pub-tailwater/laws.FnPaneEarly" = some 7 by kernel_rfl).symm.trans hf) |>.symm
      obtain rfl : fn = Tryd.f7 := (Option.some.inj (Tryd.func7.symm.trans hfn)).symm
      exact ⟨by kernel_rfl, fun j t ht => by
        rw [Tryd.params7] at ht
        rcases j with _ | j
        · obtain rfl := Option.some.inj (show some _ = some t from ht)
          exact (show Tryd.prog.wantsStandIn 24 = false by kernel_rfl)
        simp at ht⟩)
    (by kernel_rfl)
#print axioms proved
end Go.Proofs.YtgdbeiadlgkedaaDoor.fnPaneEarly
