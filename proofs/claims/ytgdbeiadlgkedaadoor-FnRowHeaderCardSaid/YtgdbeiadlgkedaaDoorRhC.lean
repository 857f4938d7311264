/- Contracts: writes into a buffer with room: what is not the buffer's stays. -/
import Derived.Test.YtgdbeiadlgkedaaDoorRhB
import Derived.Test.YtgdbeiadlgkedaaDoorAw
import Derived.Laws.CopyRow
set_option linter.unusedVariables false
set_option linter.unusedSimpArgs false
namespace Go.Proofs.YtgdbeiadlgkedaaDoor
open Go.RowKit Go.Proofs.YtgdbeiadlgkedaaDoorW.PrintWords Go.Proofs.YtgdbeiadlgkedaaDoorW.PrintLast Go.Proofs.YtgdbeiadlgkedaaDoorW.PrintMore
/-- A buffer of room 64 in the blocks b, g, holding l. -/
def BR (b g : Nat) (l : List UInt8) (w : World) : Prop :=
  ∃ lr cur, w.heap[b]? = some (.cells #[.slice (some ⟨g, 0, none⟩) l.length 64, .int .i64 0, .int .i8 lr] 129 (0, 0)) ∧ w.heap[g]? = some (.cells cur 5 (0, 0)) ∧ cur.size = 64 ∧ cur.toList.take l.length = Lib.byteCells l ∧ g ≠ b
/-- All but the two blocks stay. -/
def Kp (b g : Nat) (w w' : World) : Prop := w'.os = w.os ∧ w'.tape = w.tape ∧ w'.output = w.output ∧ w.heap.size ≤ w'.heap.size ∧ ∀ k, k < w.heap.size → k ≠ b → k ≠ g → w'.heap[k]? = w.heap[k]?
theorem Kp.trans {b g : Nat} {w w1 w2 : World} (h : Kp b g w w1) (k : Kp b g w1 w2) : Kp b g w w2 :=
  ⟨k.1.trans h.1, k.2.1.trans h.2.1, k.2.2.1.trans h.2.2.1, Nat.le_trans h.2.2.2.1 k.2.2.2.1, fun q hq hb hg => (k.2.2.2.2 q (Nat.lt_of_lt_of_le hq h.2.2.2.1) hb hg).trans (h.2.2.2.2 q hq hb hg)⟩
theorem Kp.at {b g : Nat} {w w' : World} (h : Kp b g w w') {a : Addr} {l : List UInt8} (hs : At w a l) (hlt : a.block < w.heap.size) (h1 : a.block ≠ b) (h2 : a.block ≠ g) : At w' a l := hs.kept (h.2.2.2.2 a.block hlt h1 h2)
set_option maxHeartbeats 3200000 in
set_option maxRecDepth 100000 in
theorem write_room (b g : Nat) (l l2 : List UInt8) (a : Addr) (n c : Nat) (w : World) (h : BR b g l w) (hn : l2.length = n) (hn1 : l.length < 64) (hr : l.length + n ≤ 64) (h1 : a.block ≠ b) (h2 : a.block ≠ g) (hs : At w a l2) :
    Calls Tryd.prog 132 #[.pointer (some ⟨b, 0, none⟩), .slice (some a) n c] w fun e w' => e = .returned (.tuple #[.int .i64 n, .nilIface]) ∧ BR b g (l ++ l2) w' ∧ Kp b g w w' := by
  obtain ⟨lr, cur, hb, hg, hcs, htk, hgb⟩ := h
  have x0 := (blk_cell hb 0).trans (rfl : _ = some (Value.slice (some ⟨g, 0, none⟩) l.length 64))
  have x2 := (blk_cell hb 2).trans (rfl : _ = some (Value.int .i8 lr))
  have f2 := blk_frozen hb 2
  have H0 := Lib.hid hb
  have Hg := Lib.hid hg
  have HN := Lib.hid (And.intro hn hr)
  have HS := Lib.hid hs
  have HT := Lib.hid (And.intro hcs (And.intro htk hgb))
  have HD := Lib.hid (And.intro h1 h2)
  have hne : ¬ 64 = l.length := by omega
  have hne2 : ¬ l.length = 64 := by omega
  clear hb hg hn hn1 hr hs hcs htk hgb h1 h2
  have y0 := (blk_cell (blk_set H0.out 2 (.int .i8 0)) 0).trans (rfl : _ = some (Value.slice (some ⟨g, 0, none⟩) l.length 64))
  have g0 := blk_frozen (blk_set H0.out 2 (.int .i8 0)) 0
  have HC := Lib.hid (Tryd.Buffer_tryGrow_room b (some ⟨g, 0, none⟩) l.length 64 n (w.setCell ⟨b, 2, none⟩ (.int .i8 0)) y0 g0 (by have := HN.out; omega) (by decide) (by have := HN.out; omega))
  clear y0 g0
  go_enter Tryd.func132, Tryd.ntmps132
  go_wp2_with (go_at_call 134; refine HC.out.mono ?_; rintro e_ w1 ⟨rfl, hw1⟩; have HW1 := Lib.hid hw1; have HB1 := Lib.hid (show w1.heap[b]? = some (.cells #[.slice (some ⟨g, 0, none⟩) (l.length + n) 64, .int .i64 0, .int .i8 0] 129 (0, 0)) by rw [hw1]; exact blk_set (blk_set H0.out 2 (.int .i8 0)) 0 _); have HG1 := Lib.hid (show w1.heap[g]? = some (.cells cur 5 (0, 0)) by rw [hw1]; exact blk_far (blk_far Hg.out (fun e => HT.out.2.2 e) _) (fun e => HT.out.2.2 e) _); have z0 := (blk_cell HB1.out 0).trans (rfl : _ = some (Value.slice (some ⟨g, 0, none⟩) (l.length + n) 64)); have HS1 := Lib.hid (show At w1 a l2 from HS.out.kept (by rw [hw1]; exact (Below.heap_setCell _ _ _ _ (fun e => HD.out.1 e)).trans (Below.heap_setCell _ _ _ _ (fun e => HD.out.1 e)))); have hcp := run_copy_row (P := Tryd.prog) w1 29 29 3 5 g l.length n (64 - l.length) a n c cur 5 (Lib.byteCells l2) Tryd.underlying29 (by kernel_rfl) HG1.out (by rw [Lib.byteCells_length, HN.out.1]; exact (Nat.min_self n).symm) HS1.out.cells (by rw [Lib.byteCells_length]; have := HN.out; have := HT.out; omega) (Lib.byteCells_one _); rw [Lib.byteCells_length, HN.out.1] at hcp; have q1 : l.length + n ≤ 64 := HN.out.2; clear hw1)
  go_ret2
  have e1 : cur.toList.take l.length = Lib.byteCells l := HT.out.2.1
  have hbl : (Lib.byteCells l).length = l.length := Lib.byteCells_length _
  refine ⟨rfl, ⟨0, _, ?_, setRow_heap w1 g cur _ 5 (0, 0) HG1.out, ?_, ?_, HT.out.2.2⟩, ?_⟩
  · rw [List.length_append, HN.out.1]; exact (setRow_other _ _ _ _ (fun e => HT.out.2.2 e.symm)).trans HB1.out
  · simp only [List.size_toArray, List.length_append, List.length_take, List.length_drop, Array.length_toList, Lib.byteCells_length]
    have := HN.out; have := HT.out.1; omega
  · rw [List.toList_toArray, e1, ← List.append_assoc, ← Lib.byteCells_append, List.take_left' (by rw [Lib.byteCells_length])]
  · have hw := HW1.out
    refine ⟨by rw [hw]; rfl, by rw [hw]; rfl, by rw [hw]; rfl, by rw [hw]; simp [World.setRow], fun k hk h1 h2 => ?_⟩
    rw [setRow_other _ _ _ _ h2, hw]
    exact (Below.heap_setCell _ _ _ _ h1).trans (Below.heap_setCell _ _ _ _ h1)
end Go.Proofs.YtgdbeiadlgkedaaDoor
