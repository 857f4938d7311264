/- The statement FnWindowOne: for every input the call answers true, and the input reads as it did; the listed variables start as the program's text lays them. -/
import Derived.Test.YtgdbeiadlgkedaaGreatDoorMWindowOne0
import Derived.Test.YtgdbeiadlgkedaaGreatDoorCards
import Derived.Test.YtgdbeiadlgkedaaGreatDoorTie
import Derived.Test.YtgdbeiadlgkedaaGreatDoorMWindowOne7
import Derived.WalkKit
import Derived.ProofKit
import Derived.OpenShut
import Derived.ShutString
import Derived.ChangeOld
import Derived.Below
import Derived.SizedLaws
import Derived.Lib.SmallJoins
import Derived.LaidMore
import Derived.Stop.Joined
import Derived.SevenTiedAt
namespace Go.Proofs.YtgdbeiadlgkedaaGreatDoor.fnWindowOne
open Go.ChangeShapes Go.WideShapes Go.ChangeAt Go.RowKit Go.Joins
open Go.ChangeMaps (open_string shut_string)
set_option linter.unusedVariables false
set_option maxRecDepth 100000 in
theorem lifted (os : Os) (started : os.Started) (H : Type) (enc : TypeId × Value → H) :
    ReturnsInHanded {} Tryz.checked os 3 .any (fun w args => (Rows.fnWindowOneSpec.pre enc Tryz.prog Tryz.f3 Rows.fnWindowOneRow.domain false w args ∧ laidMetH Tryz.prog laid2 w) ∧ sizedMet enc Tryz.prog Tryz.f3 (OpenSpec.ofChange Rows.fnWindowOneSpec) false w args)
      (Rows.fnWindowOneSpec.post enc Tryz.prog Tryz.f3 false true false false) := by
  refine returnsInHanded_of_change_and (C := Tryz.checked) (X := fun w _ => laidMetH Tryz.prog laid2 w) (fun _ _ _ hh h => h.of_heap hh) own started (by kernel_rfl) Tryz.func3
    (ChangeSpec.witness_shaped (enc := enc) (C := Tryz.checked) (os := os) (X := fun w _ => laidMetH Tryz.prog laid2 w) false (World.doorLaid Tryz.prog 400 os) #[.agg #[.bool false, .int .i64 0, .int .i64 0], .string ByteArray.empty] 8 rfl (World.shaped_of_RefB (by kernel_rfl) (by kernel_rfl)) (by kernel_rfl) (by kernel_rfl) (by kernel_rfl) (door_met os _)) ?_
  intro W base args ds gs before hval0 hW _ hsz0 hL _
  have hsz : (DataW.weightsEach Tryz.prog (Tryz.f3.params.toList ++ Rows.fnWindowOneSpec.plain.varTypes Tryz.prog) (ds ++ gs)).all (· ≤ reachBytes) = true := hsz0
  have hval : ∀ (j : Nat) t v, Tryz.f3.params[j]? = some t → args[j]? = some v → Value.okWide Tryz.prog W .any base t v := hval0
  have hW' := hW
  obtain ⟨p, q, hA0, hV, rfl, hfz, hnd⟩ := hW
  have hA : DataW.TrodAll enc Tryz.prog W 0 (fun _ => true) true Tryz.f3.params.toList args.toList ds p := hA0
  rw [Tryz.params3] at hA hval hsz
  obtain ⟨v0, vs0, d0, ds0, p0, q0, hargs, rfl, rfl, h0, r0⟩ := trodAll_cons hA
  obtain ⟨v1, vs1, d1, ds1, p1, q1, rfl, rfl, rfl, h1, r1⟩ := trodAll_cons r0
  obtain ⟨rfl, rfl, rfl⟩ := trodAll_nil r1
  obtain rfl : args = #[v0, v1] := by cases args; simp_all
  obtain ⟨rfl, rfl⟩ := trodVars_none hV
  have k0 := h0
  have lt0 : ∀ x ∈ p0, x.block < W.heap.size := by obtain ⟨m, hm⟩ := k0; exact DataW.trod_lt m _ _ _ hm
  obtain ⟨c0_0, c0_1, c0_2, y0_0, y0_1, y0_2, m0, rfl, rfl, rfl, g0_0, g0_1, g0_2⟩ := open_agg3 Tryz.underlying23 (by kernel_rfl) (by kernel_rfl) (hval 0 23 v0 rfl rfl) h0
  obtain ⟨a0_0, e0_0, rfl⟩ := DataW.trod_bool Tryz.underlying4 g0_0
  simp only [List.cons.injEq, and_true] at e0_0
  subst e0_0
  obtain ⟨a0_1, e0_1, rfl, w0_1⟩ := DataW.trod_int Tryz.underlying2 g0_1
  simp only [List.cons.injEq, and_true] at e0_1
  subst e0_1
  obtain ⟨a0_2, e0_2, rfl, w0_2⟩ := DataW.trod_int Tryz.underlying2 g0_2
  simp only [List.cons.injEq, and_true] at e0_2
  subst e0_2
  have k1 := h1
  have lt1 : ∀ x ∈ p1, x.block < W.heap.size := by obtain ⟨m, hm⟩ := k1; exact DataW.trod_lt m _ _ _ hm
  obtain ⟨a1, rfl, rfl, rfl, y1⟩ := open_string Tryz.underlying9 (hval 1 9 v1 rfl rfl) h1
  have w1 : a1.size ≤ 140737488351232 := by
    have z := sized_string hsz (j := 1) (t := 9) rfl rfl
    rw [Array.length_toList] at z
    exact z
  obtain ⟨pe, pl, hE⟩ := env_of_laid hL
  clear hA0 hval0 hsz0 hsz
  refine (one_row pe pl a0_0 a0_1 a0_2 a1 W hE).mono fun e W' ⟨he, bel⟩ => ?_
  subst he
  exact ⟨_, rfl, _, _, _, [], _, [], hW', trodAll_mk1 (shut_bool Tryz.underlying4 _), (trodAll_cons_mk (Below.trod laidOut (by kernel_rfl) (of_decide_eq_true (by kernel_rfl)) k0 bel lt0) (trodAll_cons_mk (Below.trod laidOut (by kernel_rfl) (of_decide_eq_true (by kernel_rfl)) k1 bel lt1) trodAll_mk0)), rfl, bel.frame _, fun h => by cases h⟩
theorem over : Rows.fnWindowOneRow.holds Tryz.pinned (OpenSpec.ofChange Rows.fnWindowOneSpec) :=
  OpenClaim.holds_of_wide 3 Tryz.f3 rfl rfl rfl rfl rfl rfl rfl ⟨rfl, rfl, rfl, rfl, rfl⟩ rfl rfl rfl rfl rfl (by kernel_rfl) Tryz.func3 (by kernel_rfl)
    (of_decide_eq_true (by kernel_rfl)) (by unfold Func.isWrapper; first | (rw [if_pos (by decide +kernel)]; kernel_rfl) | (rw [if_neg (by decide +kernel)]; exact ⟨rfl, rfl⟩))
    (fun os started H enc _ => lifted os started H enc)
theorem proved : Rows.FnWindowOneCardSaid :=
  Claim7.holds_tied_plain_at .later [] [.sentinel, .sentinel] true (true, "52f379ea6a6921d73cb0b973d6f406643499f7ad51bc9d12ec6d17b2372a08fb") true
    over (fun _ h => by cases h) (by kernel_rfl) (fun _ h => by cases h) fnWindowOne_row_tie rfl ⟨rfl, rfl⟩ (by kernel_rfl) rfl
    (fun f fn hf hfn => by
      obtain rfl : f = 3 := Option.some.inj ((show Tryz.prog.funcNamed "pub-tailwater/laws.FnWindowOne" = some 3 by kernel_rfl).symm.trans hf) |>.symm
      obtain rfl : fn = Tryz.f3 := (Option.some.inj (Tryz.func3.symm.trans hfn)).symm
      exact ⟨by kernel_rfl, fun j t ht => by
        rw [Tryz.params3] at ht
        rcases j with _ | j
        · obtain rfl := Option.some.inj (show some _ = some t from ht)
          exact (show Tryz.prog.wantsStandIn 23 = false by kernel_rfl)
        rcases j with _ | j
        · obtain rfl := Option.some.inj (show some _ = some t from ht)
          exact (show Tryz.prog.wantsStandIn 9 = false by kernel_rfl)
        simp at ht⟩)
    (by kernel_rfl)
#print axioms proved
end Go.Proofs.YtgdbeiadlgkedaaGreatDoor.fnWindowOne
