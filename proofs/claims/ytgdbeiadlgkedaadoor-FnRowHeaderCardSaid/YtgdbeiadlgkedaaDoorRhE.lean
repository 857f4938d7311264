/- Contracts: the first write into a fresh buffer. -/
import Derived.Test.YtgdbeiadlgkedaaDoorRhD
set_option linter.unusedVariables false
set_option linter.unusedSimpArgs false
namespace Go.Proofs.YtgdbeiadlgkedaaDoor
open Go.RowKit Go.Proofs.YtgdbeiadlgkedaaDoorW.PrintWords Go.Proofs.YtgdbeiadlgkedaaDoorW.PrintLast Go.Proofs.YtgdbeiadlgkedaaDoorW.PrintMore
theorem Kp.set {b g : Nat} {w w1 : World} (h : Kp b g w w1) (j : Nat) (u : Value) : Kp b g w (w1.setCell ⟨b, j, none⟩ u) :=
  ⟨h.1, h.2.1, h.2.2.1, by rw [World.size_setCell]; exact h.2.2.2.1, fun k hk h1 h2 => (Below.heap_setCell _ _ _ _ h1).trans (h.2.2.2.2 k hk h1 h2)⟩
theorem Kp.refl (b g : Nat) (w : World) : Kp b g w w := ⟨rfl, rfl, rfl, Nat.le_refl _, fun _ _ _ _ => rfl⟩
theorem Kp.row {b g : Nat} {w w1 : World} (h : Kp b g w w1) (cs : Array Value) : Kp b g w (w1.setRow g cs) :=
  ⟨h.1, h.2.1, h.2.2.1, by simp [World.setRow]; exact h.2.2.2.1, fun k hk h1 h2 => (setRow_other _ _ _ _ h2).trans (h.2.2.2.2 k hk h1 h2)⟩
set_option maxHeartbeats 3200000 in
set_option maxRecDepth 100000 in
theorem write_first (b : Nat) (l2 : List UInt8) (a : Addr) (n c : Nat) (lr : Int) (w : World) (hb : w.heap[b]? = some (.cells #[.slice none 0 0, .int .i64 0, .int .i8 lr] 129 (0, 0))) (hn : l2.length = n) (hn1 : 1 ≤ n) (hr : n ≤ 64) (h1 : a.block ≠ b) (hlt : a.block < w.heap.size) (hs : At w a l2) :
    Calls Tryd.prog 132 #[.pointer (some ⟨b, 0, none⟩), .slice (some a) n c] w fun e w' => e = .returned (.tuple #[.int .i64 n, .nilIface]) ∧ ∃ g, w.heap.size ≤ g ∧ BR b g l2 w' ∧ Kp b g w w' := by
  have x0 := (blk_cell hb 0).trans (rfl : _ = some (Value.slice none 0 0))
  have x2 := (blk_cell hb 2).trans (rfl : _ = some (Value.int .i8 lr))
  have f2 := blk_frozen hb 2
  have HB0 := Lib.hid (blk_set hb 2 (.int .i8 0))
  have HN := Lib.hid (And.intro hn (And.intro hn1 hr))
  have HS := Lib.hid hs
  have HD := Lib.hid (And.intro h1 (And.intro hlt (blk_lt hb)))
  have HG := Lib.hid (grow_nil b n 0 (w.setCell ⟨b, 2, none⟩ (.int .i8 0)) (blk_set hb 2 (.int .i8 0)) hn1 hr)
  have HT := Lib.hid (Tryd.Buffer_tryGrow_none b none 0 0 n (w.setCell ⟨b, 2, none⟩ (.int .i8 0)) ((blk_cell (blk_set hb 2 (.int .i8 0)) 0).trans rfl) (Nat.le_refl _) (by decide) (by omega))
  clear hb hn hn1 hr hs h1 hlt
  go_enter Tryd.func132, Tryd.ntmps132
  go_wp2_with (first
    | (go_at_call 134; refine HT.out.mono ?_; rintro e_ w1 ⟨rfl, rfl⟩)
    | (go_at_call 135; refine HG.out.mono ?_; rintro e_ w2 ⟨rfl, g, cur, hge, hb2, hg2, hcs, hkp⟩; have hge' : w.heap.size ≤ g := by rw [World.size_setCell] at hge; exact hge
       have HK := Lib.hid (And.intro hge' (And.intro hb2 (And.intro hg2 (And.intro hcs hkp)))); have z0 := (blk_cell hb2 0).trans (rfl : _ = some (Value.slice (some ⟨g, 0, none⟩) n 64)); have HS1 := Lib.hid (show At w2 a l2 from HS.out.kept ((hkp.2.2.2.2 a.block (by rw [World.size_setCell]; exact HD.out.2.1) HD.out.1 (by have := HD.out.2.1; omega)).trans (Below.heap_setCell _ _ _ _ HD.out.1))); have hcp := run_copy_row (P := Tryd.prog) w2 29 29 3 5 g 0 n 64 a n c cur 5 (Lib.byteCells l2) Tryd.underlying29 (by kernel_rfl) hg2 (by rw [Lib.byteCells_length, HN.out.1]; exact (Nat.min_self n).symm) HS1.out.cells (by rw [Lib.byteCells_length]; have := HN.out; omega) (Lib.byteCells_one _); rw [Lib.byteCells_length, HN.out.1] at hcp; have q1 : n ≤ 64 := HN.out.2.2; clear hge hge' hb2 hg2 hcs hkp))
  go_ret2
  obtain ⟨hge, hb2, hg2, hcs, hkp⟩ := HK.out
  have hgb : g ≠ b := by have := HD.out.2.2; omega
  refine ⟨rfl, g, hge, ⟨0, _, ?_, setRow_heap w2 g cur _ 5 (0, 0) hg2, ?_, ?_, hgb⟩, ?_⟩
  · rw [HN.out.1]; exact (setRow_other _ _ _ _ (fun e => hgb e.symm)).trans hb2
  · simp only [List.size_toArray, List.length_append, List.length_take, List.length_drop, Array.length_toList, Lib.byteCells_length]
    have := HN.out; omega
  · simp [Lib.byteCells_length]
  · have h0 : Kp b g w (w.setCell ⟨b, 2, none⟩ (.int .i8 0)) := (Kp.refl b g w).set 2 _
    exact Kp.row (h0.trans hkp) _
end Go.Proofs.YtgdbeiadlgkedaaDoor
