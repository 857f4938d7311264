/- Contracts: the coder of a function on windows. -/
import Derived.Test.YtdifeleddhefnaaFnE
set_option linter.unusedVariables false
set_option linter.unusedSimpArgs false
namespace Go.Proofs.Ytdifeleddhefnaa
open Go.RowKit Go.Proofs.YtdifeleddhefnaaW.PrintWords

theorem coder72_0 (g : Nat) (a b c : Int) (w : World) (h : w.heap[g]? = some (.cells #[.string ⟨#[71, 76, 79]⟩, .int .i64 a, .int .i64 b, .int .i64 c] 111 (0, 0))) :
    Calls Try.prog 72 #[.pointer (some ⟨g, 0, none⟩)] w fun e w' => e = .returned (.pointer (some ⟨w.heap.size, 0, none⟩)) ∧ w.alloc (.cells #[.string ⟨#[71, 87, 67]⟩, .string ⟨#[]⟩] 119) = w' := by
  have x0 : w.cell? ⟨g, 0, none⟩ = some (.string ⟨#[71, 76, 79]⟩) := (blk_cell h 0).trans rfl
  clear h
  go_enter Try.func72, Try.ntmps72
  go_wp2
  go_ret
  exact ⟨rfl, rfl⟩
theorem coder72_1 (g : Nat) (a b c : Int) (w : World) (h : w.heap[g]? = some (.cells #[.string ⟨#[70, 73, 88]⟩, .int .i64 a, .int .i64 b, .int .i64 c] 111 (0, 0))) :
    Calls Try.prog 72 #[.pointer (some ⟨g, 0, none⟩)] w fun e w' => e = .returned (.pointer (some ⟨w.heap.size, 0, none⟩)) ∧ w.alloc (.cells #[.string ⟨#[73, 87, 67]⟩, .string ⟨#[]⟩] 119) = w' := by
  have x0 : w.cell? ⟨g, 0, none⟩ = some (.string ⟨#[70, 73, 88]⟩) := (blk_cell h 0).trans rfl
  clear h
  go_enter Try.func72, Try.ntmps72
  go_wp2
  go_ret
  exact ⟨rfl, rfl⟩
theorem coder72_2 (g : Nat) (a b c : Int) (w : World) (h : w.heap[g]? = some (.cells #[.string ⟨#[83, 76, 73]⟩, .int .i64 a, .int .i64 b, .int .i64 c] 111 (0, 0))) :
    Calls Try.prog 72 #[.pointer (some ⟨g, 0, none⟩)] w fun e w' => e = .returned (.pointer (some ⟨w.heap.size, 0, none⟩)) ∧ w.alloc (.cells #[.string ⟨#[73, 87, 67]⟩, .string ⟨#[]⟩] 119) = w' := by
  have x0 : w.cell? ⟨g, 0, none⟩ = some (.string ⟨#[83, 76, 73]⟩) := (blk_cell h 0).trans rfl
  clear h
  go_enter Try.func72, Try.ntmps72
  go_wp2
  go_ret
  exact ⟨rfl, rfl⟩
theorem coder72_3 (g : Nat) (a b c : Int) (w : World) (h : w.heap[g]? = some (.cells #[.string ⟨#[83, 69, 83]⟩, .int .i64 a, .int .i64 b, .int .i64 c] 111 (0, 0))) :
    Calls Try.prog 72 #[.pointer (some ⟨g, 0, none⟩)] w fun e w' => e = .returned (.pointer (some ⟨w.heap.size, 0, none⟩)) ∧ w.alloc (.cells #[.string ⟨#[73, 87, 67]⟩, .string ⟨#[]⟩] 119) = w' := by
  have x0 : w.cell? ⟨g, 0, none⟩ = some (.string ⟨#[83, 69, 83]⟩) := (blk_cell h 0).trans rfl
  clear h
  go_enter Try.func72, Try.ntmps72
  go_wp2
  go_ret
  exact ⟨rfl, rfl⟩
/-- The coder's name. -/
def cod (k : Int) : ByteArray := if k = 0 then ⟨#[71, 87, 67]⟩ else ⟨#[73, 87, 67]⟩
theorem coder72_any (g : Nat) (f : WF) (r : 0 ≤ f.k ∧ f.k ≤ 3) (w : World) (h : w.heap[g]? = some (.cells f.cells 111 (0, 0))) :
    Calls Try.prog 72 #[.pointer (some ⟨g, 0, none⟩)] w fun e w' => e = .returned (.pointer (some ⟨w.heap.size, 0, none⟩)) ∧ w.alloc (.cells #[.string (cod f.k), .string ⟨#[]⟩] 119) = w' := by
  obtain ⟨k, sz, pd, gp⟩ := f
  simp only at r
  rcases (show k = 0 ∨ k = 1 ∨ k = 2 ∨ k = 3 by omega) with rfl | rfl | rfl | rfl
  · exact coder72_0 g _ _ _ w h
  · exact coder72_1 g _ _ _ w h
  · exact coder72_2 g _ _ _ w h
  · exact coder72_3 g _ _ _ w h
theorem str73_any (g : Nat) (s : ByteArray) (w : World) (h : w.heap[g]? = some (.cells #[.string s, .string ⟨#[]⟩] 119 (0, 0))) : Calls Try.prog 73 #[.pointer (some ⟨g, 0, none⟩)] w fun e w' => e = .returned (.string s) ∧ w = w' := by
  have x0 : w.cell? ⟨g, 0, none⟩ = some (.string s) := (blk_cell h 0).trans rfl
  clear h
  go_enter Try.func73, Try.ntmps73
  go_wp2
  go_ret
  exact ⟨rfl, rfl⟩
theorem coder_any (k sz pd gp : Int) (s1 : In9 sz) (p1 : In9 pd) (g1 : In9 gp) (r : 0 ≤ k ∧ k ≤ 3) (w : World) :
    Calls Try.prog 47 #[.agg #[.int .u8 k, .int .i64 sz, .int .i64 pd, .int .i64 gp]] w fun e w' => e = .returned (.string (cod k)) ∧ Below w.heap.size w w' := by
  have A1 := Aside0.mk (And.intro s1 (And.intro p1 g1))
  have R := Aside0.mk r
  clear s1 p1 g1 r
  go_enter Try.func47, Try.ntmps47
  go_wp2_with (first
    | (go_at_call 51; refine (winFn_any ⟨_, _, _, _⟩ A1.out.1 A1.out.2.1 A1.out.2.2 _).mono ?_; rintro e_ w1 ⟨g_, rfl, hg1, hg2, hb⟩; have HG := Aside0.mk hg2; have HB := Aside0.mk ((below_alloc (Below.refl w.heap.size w) _).trans (hb.mono (by simp))); clear hg1 hg2 hb)
    | (go_at_call 72; refine (coder72_any g_ ⟨k, sz, pd, gp⟩ R.out _ HG.out).mono ?_; rintro e_ w2 ⟨rfl, rfl⟩)
    | (go_at_call 73; refine (str73_any _ (cod k) _ (heap_alloc_new _ _)).mono ?_; rintro e_ w3 ⟨rfl, rfl⟩))
  go_ret
  exact ⟨rfl, below_alloc HB.out _⟩
end Go.Proofs.Ytdifeleddhefnaa
