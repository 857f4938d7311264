/- Contracts: the default strategy. -/
import Derived.Test.YtdifeleddhefnaaFnE
set_option linter.unusedVariables false
set_option linter.unusedSimpArgs false
namespace Go.Proofs.Ytdifeleddhefnaa
open Go.RowKit Go.Proofs.YtdifeleddhefnaaW.PrintWords

theorem default_any (w : World) : Calls Try.prog 81 #[] w fun e w' => e = .returned (.pointer (some ⟨w.heap.size, 0, none⟩)) ∧ w.alloc (.cells #[] 123) = w' := by
  go_enter Try.func81, Try.ntmps81
  go_wp2
  go_ret
  exact ⟨rfl, rfl⟩
/-- A default strategy as it lies. -/
def BD (b g t : Nat) (w z : World) : Prop := z.heap[b]? = some (.cells #[.pointer (some ⟨g, 0, none⟩), .iface 79 (.pointer (some ⟨t, 0, none⟩)), .string ⟨#[65, 99, 99, 117, 109, 117, 108, 97, 116, 105, 111, 110, 77, 111, 100, 101, 95, 68, 73, 83, 67, 65, 82, 68, 73, 78, 71]⟩, .int .i64 0] 85 (0, 0)) ∧ z.heap[g]? = some (.cells #[.string ⟨#[71, 76, 79]⟩, .int .i64 0, .int .i64 0, .int .i64 0] 111 (0, 0)) ∧ w.heap.size ≤ b ∧ Below w.heap.size w z
theorem BD.all {b g t : Nat} {w z : World} (h : BD b g t w z) : z.cell? ⟨b, 0, none⟩ = some (.pointer (some ⟨g, 0, none⟩)) ∧ z.cell? ⟨b, 1, none⟩ = some (.iface 79 (.pointer (some ⟨t, 0, none⟩))) ∧ z.cell? ⟨b, 2, none⟩ = some (.string ⟨#[65, 99, 99, 117, 109, 117, 108, 97, 116, 105, 111, 110, 77, 111, 100, 101, 95, 68, 73, 83, 67, 65, 82, 68, 73, 78, 71]⟩) ∧ z.cell? ⟨b, 3, none⟩ = some (.int .i64 0) ∧ Aside0 (BD b g t w z) :=
  ⟨(blk_cell h.1 0).trans rfl, (blk_cell h.1 1).trans rfl, (blk_cell h.1 2).trans rfl, (blk_cell h.1 3).trans rfl, ⟨h⟩⟩
theorem BD.step {b g t : Nat} {w z z' : World} (hb : Below z.heap.size z z') (h : z.cell? ⟨b, 0, none⟩ = some (.pointer (some ⟨g, 0, none⟩)) ∧ z.cell? ⟨b, 1, none⟩ = some (.iface 79 (.pointer (some ⟨t, 0, none⟩))) ∧ z.cell? ⟨b, 2, none⟩ = some (.string ⟨#[65, 99, 99, 117, 109, 117, 108, 97, 116, 105, 111, 110, 77, 111, 100, 101, 95, 68, 73, 83, 67, 65, 82, 68, 73, 78, 71]⟩) ∧ z.cell? ⟨b, 3, none⟩ = some (.int .i64 0) ∧ Aside0 (BD b g t w z)) : z'.cell? ⟨b, 0, none⟩ = some (.pointer (some ⟨g, 0, none⟩)) ∧ z'.cell? ⟨b, 1, none⟩ = some (.iface 79 (.pointer (some ⟨t, 0, none⟩))) ∧ z'.cell? ⟨b, 2, none⟩ = some (.string ⟨#[65, 99, 99, 117, 109, 117, 108, 97, 116, 105, 111, 110, 77, 111, 100, 101, 95, 68, 73, 83, 67, 65, 82, 68, 73, 78, 71]⟩) ∧ z'.cell? ⟨b, 3, none⟩ = some (.int .i64 0) ∧ Aside0 (BD b g t w z') :=
  BD.all ⟨blk_below h.2.2.2.2.out.1 hb, blk_below h.2.2.2.2.out.2.1 hb, h.2.2.2.2.out.2.2.1, below_then h.2.2.2.2.out.2.2.2 h.2.2.2.2.out.2.2.2.size hb⟩
theorem strategy_any (w : World) : Calls Try.prog 61 #[] w fun e w' => ∃ b g t : Nat, e = .returned (.pointer (some ⟨b, 0, none⟩)) ∧ BD b g t w w' := by
  go_enter Try.func61, Try.ntmps61
  go_wp2_with (first
    | (go_at_call 63; refine (newGlobal_any _).mono ?_; rintro e_ w1 ⟨rfl, rfl⟩)
    | (go_at_call 81; refine (default_any _).mono ?_; rintro e_ w2 ⟨rfl, rfl⟩))
  go_ret
  refine ⟨w.heap.size + 1 + 1, w.heap.size, w.heap.size + 1, rfl, ?_, ?_, by omega, below_alloc (below_alloc (below_alloc (Below.refl _ _) _) _) _⟩
  · have h := heap_alloc_new ((w.alloc (.cells #[.string ⟨#[71, 76, 79]⟩, .int .i64 0, .int .i64 0, .int .i64 0] 111)).alloc (.cells #[] 123)) (.cells #[.pointer (some ⟨w.heap.size, 0, none⟩), .iface 79 (.pointer (some ⟨w.heap.size + 1, 0, none⟩)), .string ⟨#[65, 99, 99, 117, 109, 117, 108, 97, 116, 105, 111, 110, 77, 111, 100, 101, 95, 68, 73, 83, 67, 65, 82, 68, 73, 78, 71]⟩, .int .i64 0] 85)
    rw [World.size_alloc, World.size_alloc] at h
    exact h
  · exact blk_alloc (blk_alloc (heap_alloc_new w _) _) _
theorem str70_glo (g : Nat) (w : World) (h : w.heap[g]? = some (.cells #[.string ⟨#[71, 76, 79]⟩, .int .i64 0, .int .i64 0, .int .i64 0] 111 (0, 0))) : Calls Try.prog 70 #[.pointer (some ⟨g, 0, none⟩)] w fun e w' => e = .returned (.string ⟨#[71, 76, 79]⟩) ∧ w = w' := by
  have x0 : w.cell? ⟨g, 0, none⟩ = some (.string ⟨#[71, 76, 79]⟩) := (blk_cell h 0).trans rfl
  clear h
  go_enter Try.func70, Try.ntmps70
  go_wp2
  go_ret
  exact ⟨rfl, rfl⟩
theorem str64_glo (b g t : Nat) (w z : World) (h : BD b g t w z) : Calls Try.prog 64 #[.pointer (some ⟨b, 0, none⟩)] z fun e w' => e = .returned (.string ⟨#[71, 76, 79]⟩) ∧ z = w' := by
  obtain ⟨x0, x1, x2, x3, K⟩ := BD.all h
  clear h
  go_enter Try.func64, Try.ntmps64
  go_wp2_with (go_at_call 70; refine (str70_glo g _ K.out.2.1).mono ?_; rintro e_ w1 ⟨rfl, rfl⟩)
  go_ret
  exact ⟨rfl, rfl⟩
theorem taD (t : Nat) : ∀ W : World, (Instr.typeAssert (.iface 79 (.pointer (some ⟨t, 0, none⟩))) 82 79 true).run Try.prog W = .ok (.tuple #[.pointer (some ⟨t, 0, none⟩), .bool true]) W := fun _ => by kernel_rfl
set_option maxRecDepth 100000 in
set_option maxHeartbeats 4000000 in
theorem winDefault_any (w : World) : Calls Try.prog 38 #[] w fun e w' => e = .returned (.tuple #[.bool true, .bool true, .string ⟨#[65, 99, 99, 117, 109, 117, 108, 97, 116, 105, 111, 110, 77, 111, 100, 101, 95, 68, 73, 83, 67, 65, 82, 68, 73, 78, 71]⟩, .int .i64 0, .string ⟨#[71, 76, 79]⟩]) ∧ Below w.heap.size w w' := by
  go_enter Try.func38, Try.ntmps38
  go_wp2_with (go_at_call 61; refine (strategy_any _).mono ?_; rintro e_ w1 ⟨b, g, t, rfl, h⟩; have hta := taD t; obtain ⟨x0, x1, x2, x3, KB⟩ := BD.all h; clear h)
  have K0 : w1.drew.cell? ⟨b, 0, none⟩ = some (.pointer (some ⟨g, 0, none⟩)) ∧ w1.drew.cell? ⟨b, 1, none⟩ = some (.iface 79 (.pointer (some ⟨t, 0, none⟩))) ∧ w1.drew.cell? ⟨b, 2, none⟩ = some (.string ⟨#[65, 99, 99, 117, 109, 117, 108, 97, 116, 105, 111, 110, 77, 111, 100, 101, 95, 68, 73, 83, 67, 65, 82, 68, 73, 78, 71]⟩) ∧ w1.drew.cell? ⟨b, 3, none⟩ = some (.int .i64 0) ∧ Aside0 (BD b g t w w1.drew) := BD.step (below_drew (Below.refl _ _)) ⟨x0, x1, x2, x3, KB⟩
  clear x0 x1 x2 x3
  go_region_held3 (fun z => z.cell? ⟨b, 0, none⟩ = some (.pointer (some ⟨g, 0, none⟩)) ∧ z.cell? ⟨b, 1, none⟩ = some (.iface 79 (.pointer (some ⟨t, 0, none⟩))) ∧ z.cell? ⟨b, 2, none⟩ = some (.string ⟨#[65, 99, 99, 117, 109, 117, 108, 97, 116, 105, 111, 110, 77, 111, 100, 101, 95, 68, 73, 83, 67, 65, 82, 68, 73, 78, 71]⟩) ∧ z.cell? ⟨b, 3, none⟩ = some (.int .i64 0) ∧ Aside0 (BD b g t w z)) (first | exact K | exact K0 | assumption)
    (first
    | (go_at_call 63; refine (newGlobal_any _).mono ?_; rintro e_ w2 ⟨rfl, hw⟩; have HN := Aside0.mk (hw ▸ heap_alloc_new w1.drew _ : w2.heap[w1.drew.heap.size]? = some (.cells #[.string ⟨#[71, 76, 79]⟩, .int .i64 0, .int .i64 0, .int .i64 0] 111 (0, 0))); have K : w2.cell? ⟨b, 0, none⟩ = some (.pointer (some ⟨g, 0, none⟩)) ∧ w2.cell? ⟨b, 1, none⟩ = some (.iface 79 (.pointer (some ⟨t, 0, none⟩))) ∧ w2.cell? ⟨b, 2, none⟩ = some (.string ⟨#[65, 99, 99, 117, 109, 117, 108, 97, 116, 105, 111, 110, 77, 111, 100, 101, 95, 68, 73, 83, 67, 65, 82, 68, 73, 78, 71]⟩) ∧ w2.cell? ⟨b, 3, none⟩ = some (.int .i64 0) ∧ Aside0 (BD b g t w w2) := BD.step (hw ▸ below_alloc (Below.refl _ _) _) K0; clear hw)
    | (go_at_call 62; refine (equals_any _ _ ⟨0, 0, 0, 0⟩ ⟨0, 0, 0, 0⟩ ⟨by decide, by decide⟩ ⟨by decide, by decide⟩ _ K.2.2.2.2.out.2.1 HN.out).mono ?_; rintro e_ w3 ⟨rfl, hd⟩; rw [show eqFn ⟨0, 0, 0, 0⟩ ⟨0, 0, 0, 0⟩ = true from by decide]; have K3 : w3.cell? ⟨b, 0, none⟩ = some (.pointer (some ⟨g, 0, none⟩)) ∧ w3.cell? ⟨b, 1, none⟩ = some (.iface 79 (.pointer (some ⟨t, 0, none⟩))) ∧ w3.cell? ⟨b, 2, none⟩ = some (.string ⟨#[65, 99, 99, 117, 109, 117, 108, 97, 116, 105, 111, 110, 77, 111, 100, 101, 95, 68, 73, 83, 67, 65, 82, 68, 73, 78, 71]⟩) ∧ w3.cell? ⟨b, 3, none⟩ = some (.int .i64 0) ∧ Aside0 (BD b g t w w3) := BD.step hd.below (by assumption); have K := K3; clear hd)
    | (go_at_call 64; refine (str64_glo b g t w _ K.2.2.2.2.out).mono ?_; rintro e_ w4 ⟨rfl, hw⟩; have K := hw ▸ K))
  all_goals
    go_wp2_with fail
    go_returns
    exact ⟨rfl, K.2.2.2.2.out.2.2.2⟩
end Go.Proofs.Ytdifeleddhefnaa
