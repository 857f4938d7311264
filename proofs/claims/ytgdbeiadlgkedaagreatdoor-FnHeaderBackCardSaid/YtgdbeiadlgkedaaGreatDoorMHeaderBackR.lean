/- The statement FnHeaderBack: for every input the call answers true, and the input reads as it did; the listed variables start as the program's text lays them. -/
import Derived.Test.YtgdbeiadlgkedaaGreatDoorMHeaderBack0
import Derived.Test.YtgdbeiadlgkedaaGreatDoorCards
import Derived.Test.YtgdbeiadlgkedaaGreatDoorTie
import Derived.Test.YtgdbeiadlgkedaaGreatDoorMHeaderBack15
import Derived.WalkKit
import Derived.ProofKit
import Derived.OpenShut
import Derived.ShutString
import Derived.ChangeOld
import Derived.Below
import Derived.SizedLaws
import Derived.Lib.SmallJoins
import Derived.LaidMore
import Derived.Stop.Joined
import Derived.SevenTiedAt
namespace Go.Proofs.YtgdbeiadlgkedaaGreatDoor.fnHeaderBack
open Go.ChangeShapes Go.WideShapes Go.ChangeAt Go.RowKit Go.Joins
open Go.ChangeMaps (open_string shut_string)
set_option linter.unusedVariables false
set_option maxRecDepth 100000 in
theorem lifted (os : Os) (started : os.Started) (H : Type) (enc : TypeId × Value → H) :
    ReturnsInHanded {} Tryz.checked os 5 .any (fun w args => (Rows.fnHeaderBackSpec.pre enc Tryz.prog Tryz.f5 Rows.fnHeaderBackRow.domain false w args ∧ laidMetH Tryz.prog laid2 w) ∧ sizedMet enc Tryz.prog Tryz.f5 (OpenSpec.ofChange Rows.fnHeaderBackSpec) false w args)
      (Rows.fnHeaderBackSpec.post enc Tryz.prog Tryz.f5 false true false false) := by
  refine returnsInHanded_of_change_and (C := Tryz.checked) (X := fun w _ => laidMetH Tryz.prog laid2 w) (fun _ _ _ hh h => h.of_heap hh) own started (by kernel_rfl) Tryz.func5
    (ChangeSpec.witness_shaped (enc := enc) (C := Tryz.checked) (os := os) (X := fun w _ => laidMetH Tryz.prog laid2 w) false (World.doorLaid Tryz.prog 400 os) #[.agg #[.bool false, .slice none 0 0, .int .i64 0, .int .i64 0, .bool false, .bool false, .int .i64 0, .int .i64 0], .string ByteArray.empty] 8 rfl (World.shaped_of_RefB (by kernel_rfl) (by kernel_rfl)) (by kernel_rfl) (by kernel_rfl) (by kernel_rfl) (door_met os _)) ?_
  intro W base args ds gs before hval0 hW _ hsz0 hL _
  have hsz : (DataW.weightsEach Tryz.prog (Tryz.f5.params.toList ++ Rows.fnHeaderBackSpec.plain.varTypes Tryz.prog) (ds ++ gs)).all (· ≤ reachBytes) = true := hsz0
  have hval : ∀ (j : Nat) t v, Tryz.f5.params[j]? = some t → args[j]? = some v → Value.okWide Tryz.prog W .any base t v := hval0
  have hW' := hW
  obtain ⟨p, q, hA0, hV, rfl, hfz, hnd⟩ := hW
  have hA : DataW.TrodAll enc Tryz.prog W 0 (fun _ => true) true Tryz.f5.params.toList args.toList ds p := hA0
  rw [Tryz.params5] at hA hval hsz
  obtain ⟨v0, vs0, d0, ds0, p0, q0, hargs, rfl, rfl, h0, r0⟩ := trodAll_cons hA
  obtain ⟨v1, vs1, d1, ds1, p1, q1, rfl, rfl, rfl, h1, r1⟩ := trodAll_cons r0
  obtain ⟨rfl, rfl, rfl⟩ := trodAll_nil r1
  obtain rfl : args = #[v0, v1] := by cases args; simp_all
  obtain ⟨rfl, rfl⟩ := trodVars_none hV
  have k0 := h0
  have lt0 : ∀ x ∈ p0, x.block < W.heap.size := by obtain ⟨m, hm⟩ := k0; exact DataW.trod_lt m _ _ _ hm
  obtain ⟨iv0, sA0, sn0, sc0, sl0, tm0, tt0, pf0, pg0, pi0, pk0, rfl, rfl, hc0, hC0, u20, u30, u60, u70⟩ := open_head (hval 0 44 v0 rfl rfl) h0
  have k1 := h1
  have lt1 : ∀ x ∈ p1, x.block < W.heap.size := by obtain ⟨m, hm⟩ := k1; exact DataW.trod_lt m _ _ _ hm
  obtain ⟨a1, rfl, rfl, rfl, y1⟩ := open_string Tryz.underlying9 (hval 1 9 v1 rfl rfl) h1
  have w1 : a1.size ≤ 140737488351232 := by
    have z := sized_string hsz (j := 1) (t := 9) rfl rfl
    rw [Array.length_toList] at z
    exact z
  obtain ⟨pe, pl, hE⟩ := env_of_laid hL
  clear hA0 hval0 hsz0 hsz
  refine (hback_row pe pl iv0 sA0 sc0 sl0 tm0 tt0 pf0 pg0 pi0 pk0 a1 W hE hC0 hc0 u60 u70).mono fun e W' ⟨he, bel⟩ => ?_
  subst he
  exact ⟨_, rfl, _, _, _, [], _, [], hW', trodAll_mk1 (shut_bool Tryz.underlying4 _), (trodAll_cons_mk (Below.trod laidOut (by kernel_rfl) (of_decide_eq_true (by kernel_rfl)) k0 bel lt0) (trodAll_cons_mk (Below.trod laidOut (by kernel_rfl) (of_decide_eq_true (by kernel_rfl)) k1 bel lt1) trodAll_mk0)), rfl, bel.frame _, fun h => by cases h⟩
theorem over : Rows.fnHeaderBackRow.holds Tryz.pinned (OpenSpec.ofChange Rows.fnHeaderBackSpec) :=
  OpenClaim.holds_of_wide 5 Tryz.f5 rfl rfl rfl rfl rfl rfl rfl ⟨rfl, rfl, rfl, rfl, rfl⟩ rfl rfl rfl rfl rfl (by kernel_rfl) Tryz.func5 (by kernel_rfl)
    (of_decide_eq_true (by kernel_rfl)) (by unfold Func.isWrapper; first | (rw [if_pos (by decide +kernel)]; kernel_rfl) | (rw [if_neg (by decide +kernel)]; exact ⟨rfl, rfl⟩))
    (fun os started H enc _ => lifted os started H enc)
theorem proved : Rows.FnHeaderBackCardSaid :=
  Claim7.holds_tied_plain_at .later [] [.sentinel, .sentinel] true (true, "52f379ea6a6921d73cb0b973d6f406643499f7ad51bc9d12ec6d17b2372a08fb") true
    over (fun _ h => by cases h) (by kernel_rfl) (fun _ h => by cases h) fnHeaderBack_row_tie rfl ⟨rfl, rfl⟩ (by kernel_rfl) rfl
    (fun f fn hf hfn => by
      obtain rfl : f = 5 := Option.some.inj ((show Tryz.prog.funcNamed "pub-tailwater/laws.FnHeaderBack" = some 5 by kernel_rfl).symm.trans hf) |>.symm
      obtain rfl : fn = Tryz.f5 := (Option.some.inj (Tryz.func5.symm.trans hfn)).symm
      exact ⟨by kernel_rfl, fun j t ht => by
        rw [Tryz.params5] at ht
        rcases j with _ | j
        · obtain rfl := Option.some.inj (show some _ = some t from ht)
          exact (show Tryz.prog.wantsStandIn 44 = false by kernel_rfl)
        rcases j with _ | j
        · obtain rfl := Option.some.inj (show some _ = some t from ht)
          exact (show Tryz.prog.wantsStandIn 9 = false by kernel_rfl)
        simp at ht⟩)
    (by kernel_rfl)
#print axioms proved
end Go.Proofs.YtgdbeiadlgkedaaGreatDoor.fnHeaderBack
