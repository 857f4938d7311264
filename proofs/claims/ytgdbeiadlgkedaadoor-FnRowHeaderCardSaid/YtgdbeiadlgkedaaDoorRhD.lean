/- Contracts: the first write into a fresh buffer. -/
import Derived.Test.YtgdbeiadlgkedaaDoorRhC
set_option linter.unusedVariables false
set_option linter.unusedSimpArgs false
namespace Go.Proofs.YtgdbeiadlgkedaaDoor
open Go.RowKit Go.Proofs.YtgdbeiadlgkedaaDoorW.PrintWords Go.Proofs.YtgdbeiadlgkedaaDoorW.PrintLast Go.Proofs.YtgdbeiadlgkedaaDoorW.PrintMore
def mk64 : Obj := .cells (madeCells #[.int .u8 0] (64 * 1)) 5
theorem mk64_run (n : Nat) (hn : n ≤ 64) : ∀ W : World, (Instr.makeSlice 29 (.int .i64 (n : Int)) (.int .i64 64)).run Tryd.prog W = .ok (.slice (some ⟨W.heap.size, 0, none⟩) n 64) (W.alloc mk64) := by
  intro W
  have hm : (Tryd.prog.info? 5).map (fun i => (i.zero, i.size, i.bytes)) = some (some (.int .u8 0), 1, 1) := by kernel_rfl
  obtain ⟨i, hi, he⟩ := Option.map_eq_some_iff.1 hm
  simp only [Prod.mk.injEq] at he
  obtain ⟨hz, hs, hb⟩ := he
  have h := run_makeSlice (P := Tryd.prog) W 29 5 i _ Tryd.underlying29 hi hz .i64 .i64 (n : Int) (64 : Int) (by omega) (by omega) (by rw [hs]; simp) (by rw [hb]; simp) (by omega)
  rw [hs, show (Value.int .u8 0).cells = #[.int .u8 0] from rfl] at h
  simpa [mk64] using h
theorem mk64_size : (madeCells #[Value.int .u8 0] (64 * 1)).size = 64 := by rw [size_madeCells]
set_option maxHeartbeats 3200000 in
set_option maxRecDepth 100000 in
theorem grow_nil (b n : Nat) (lr : Int) (w : World) (hb : w.heap[b]? = some (.cells #[.slice none 0 0, .int .i64 0, .int .i8 lr] 129 (0, 0))) (hn1 : 1 ≤ n) (hn : n ≤ 64) :
    Calls Tryd.prog 135 #[.pointer (some ⟨b, 0, none⟩), .int .i64 n] w fun e w' => e = .returned (.int .i64 0) ∧ ∃ g cur, w.heap.size ≤ g ∧ w'.heap[b]? = some (.cells #[.slice (some ⟨g, 0, none⟩) n 64, .int .i64 0, .int .i8 lr] 129 (0, 0)) ∧ w'.heap[g]? = some (.cells cur 5 (0, 0)) ∧ cur.size = 64 ∧ Kp b g w w' := by
  have hmk := mk64_run n hn
  have hnil : ∀ W, (binOp .eql 29 (.slice none 0 0) (.slice none 0 0)).run Tryd.prog W = .ok (.bool true) W := fun W => Lib.run_eql_slice_nil_nil W _ _ Tryd.underlying29
  have HL := Lib.hid (show Calls Tryd.prog 136 #[.pointer (some ⟨b, 0, none⟩)] w fun e w' => e = .returned (.int .i64 0) ∧ ∃ k, w' = w.drewN k from Tryd.Buffer_Len b b [] w ⟨Nat.le_refl _, .slice none 0 0, lr, hb, World.ownsRow_nil _ _ _ _, by simp [Value.ownBlock]⟩)
  have H0 := Lib.hid hb
  have q1 : (n : Int) ≤ 64 := by omega
  have HN := Lib.hid (And.intro hn1 hn)
  clear hb hn hn1
  go_enter Tryd.func135, Tryd.ntmps135
  go_wp2_with (first
    | (go_at_call 136; refine HL.out.mono ?_; rintro e_ w1 ⟨rfl, k, hw1⟩; have HB1 := Lib.hid (show w1.heap[b]? = some (.cells #[.slice none 0 0, .int .i64 0, .int .i8 lr] 129 (0, 0)) by rw [hw1]; exact H0.out); have x0 := (blk_cell HB1.out 0).trans (rfl : _ = some (Value.slice none 0 0)); have x1 := (blk_cell HB1.out 1).trans (rfl : _ = some (Value.int .i64 0)); have f0 := blk_frozen HB1.out 0; have y0 := (blk_cell (blk_alloc HB1.out mk64) 0).trans (rfl : _ = some (Value.slice none 0 0)); have g0 := blk_frozen (blk_alloc HB1.out mk64) 0; have HW1 := Lib.hid hw1; clear hw1)
    | (go_at_call 134; refine (Tryd.Buffer_tryGrow_none b none 0 0 n _ x0 (by omega) (by decide) (by have := HN.out; omega)).mono ?_; rintro e_ w2 ⟨rfl, rfl⟩))
  go_ret
  have HB1' := (show (w2.alloc mk64).heap[b]? = some (.cells #[.slice none 0 0, .int .i64 0, .int .i8 lr] 129 (0, 0)) from blk_alloc HB1.out mk64)
  have hs1 : w2.heap.size = w.heap.size := by rw [HW1.out]; rfl
  have hlt := blk_lt H0.out
  refine ⟨rfl, w2.heap.size, _, by omega, blk_set HB1' 0 _, (blk_far (heap_alloc_new w2 mk64) (by show w2.heap.size ≠ b; omega) _), mk64_size, ?_⟩
  refine ⟨by rw [HW1.out]; rfl, by rw [HW1.out]; rfl, by rw [HW1.out]; rfl, by rw [World.size_setCell, World.size_alloc]; omega, fun k hk h1 h2 => ?_⟩
  rw [Below.heap_setCell _ _ _ _ h1, (below_alloc (Below.refl w2.heap.size w2) mk64).block k (by omega), HW1.out]
  rfl
end Go.Proofs.YtgdbeiadlgkedaaDoor
