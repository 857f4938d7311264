/- The walk of the statement on the reading of a row's header: the law. -/
import Derived.Test.YtgdbeiadlgkedaaDoorL15
namespace Go.Proofs.YtgdbeiadlgkedaaDoor
open Go.RowKit
set_option linter.unusedVariables false
set_option linter.unusedSimpArgs false

set_option maxHeartbeats 4000000 in
set_option maxRecDepth 100000 in
theorem rr_skip (pe pl : Addr) (s : ByteArray) (w : World) (hs : s.size ≤ 400) (he : Env w.heap.size pe pl w) (hh : Calls Tryd.prog 39 #[.string s] w fun e w' => e = .returned (.agg #[.int .i64 0, .string ⟨#[]⟩, .int .i64 0, .int .i64 2]) ∧ Below w.heap.size w w') :
    Calls Tryd.prog 16 #[.string s] w fun e w' => e = .returned (.bool true) ∧ Below w.heap.size w w' := by
  have HE := Lib.hid he
  have HH := Lib.hid hh
  have hc : ¬ 2147483647 < (s.size : Int) := by omega
  have hc2 : ¬ 400 < (s.size : Int) := by omega
  clear hs he hh
  go_enter Tryd.func16, Tryd.ntmps16
  go_wp2_with (first
    | (go_at_call 39; go_loud (refine HH.out.mono ?_; rintro e_ w1 ⟨rfl, hb1⟩; have HB1 := Lib.hid hb1; clear hb1))
    | (go_at_call 21; go_loud (refine (awake_any w.heap.size pe pl _ (HE.out.below (HB1.out.alloc HB1.out.size _)) (by have := HB1.out.size; simp; omega)).mono ?_; rintro e_ w3 ⟨rfl, hb3⟩; have HB3 := Lib.hid ((HB1.out.alloc HB1.out.size _).trans (hb3.mono (by have := HB1.out.size; simp; omega))); clear hb3)))
  go_ret
  exact ⟨rfl, HB3.out⟩
set_option maxHeartbeats 4000000 in
set_option maxRecDepth 100000 in
theorem rr_bad (pe pl : Addr) (s : ByteArray) (w : World) (hs : s.size ≤ 400) (he : Env w.heap.size pe pl w) (hh : Calls Tryd.prog 39 #[.string s] w fun e w' => e = .returned (.agg #[.int .i64 0, .string ⟨#[]⟩, .int .i64 0, .int .i64 1]) ∧ Below w.heap.size w w')
    (hi : ∀ W, Below w.heap.size w W → Calls Tryd.prog 40 #[.string s] W fun e w' => ∃ (x : Int) (i : Nat) (t : ByteArray), e = .returned (.tuple #[.int .i64 x, .string ⟨#[]⟩, .bool false, .int .i64 i, .string t]) ∧ t.data.toList ≠ [] ∧ Below W.heap.size W w') :
    Calls Tryd.prog 16 #[.string s] w fun e w' => e = .returned (.bool true) ∧ Below w.heap.size w w' := by
  have HE := Lib.hid he
  have HH := Lib.hid hh
  have hc : ¬ 2147483647 < (s.size : Int) := by omega
  have hc2 : ¬ 400 < (s.size : Int) := by omega
  have HI := Lib.hid hi
  clear hs he hh hi
  go_enter Tryd.func16, Tryd.ntmps16
  go_wp2_with (first
    | (go_at_call 39; go_loud (refine HH.out.mono ?_; rintro e_ w1 ⟨rfl, hb1⟩; have HB1 := Lib.hid hb1; clear hb1))
    | (go_at_call 40; go_loud (refine (HI.out _ (HB1.out.alloc HB1.out.size _)).mono ?_; rintro e_ w2 ⟨x2, i2, t2, rfl, ht2, hb2⟩; have hne2 := ne_empty ht2; clear ht2; have HB2 := Lib.hid ((HB1.out.alloc HB1.out.size _).trans (hb2.mono (by have := HB1.out.size; simp; omega))); obtain ⟨hc_, hf_⟩ := (⟨fun o => hb2.cell (p := ⟨w1.heap.size, o, none⟩) (by simp), trivial⟩ : (∀ o, w2.cell? ⟨w1.heap.size, o, none⟩ = _) ∧ True); have y0 := (hc_ 0).trans ((blk_cell (heap_alloc_new w1 _) 0).trans rfl); have y1 := (hc_ 1).trans ((blk_cell (heap_alloc_new w1 _) 1).trans rfl); have y2 := (hc_ 2).trans ((blk_cell (heap_alloc_new w1 _) 2).trans rfl); have y3 := (hc_ 3).trans ((blk_cell (heap_alloc_new w1 _) 3).trans rfl); have HLT := Lib.hid (show w1.heap.size < w2.heap.size by have := hb2.size; simp at this; omega); clear hc_ hb2))
    | (go_at_call 21; go_loud (refine (awake_any w.heap.size pe pl w2 (HE.out.below HB2.out) HB2.out.size).mono ?_; rintro e_ w3 ⟨rfl, hb3⟩; have HB3 := Lib.hid (HB2.out.trans (hb3.mono HB2.out.size)); have z0 := (hb3.cell (p := ⟨w1.heap.size, 0, none⟩) HLT.out).trans y0; have z1 := (hb3.cell (p := ⟨w1.heap.size, 1, none⟩) HLT.out).trans y1; have z2 := (hb3.cell (p := ⟨w1.heap.size, 2, none⟩) HLT.out).trans y2; have z3 := (hb3.cell (p := ⟨w1.heap.size, 3, none⟩) HLT.out).trans y3; clear hb3)))
  go_ret
  exact ⟨rfl, HB3.out⟩
set_option maxHeartbeats 4000000 in
set_option maxRecDepth 100000 in
theorem rr_good (pe pl : Addr) (s : ByteArray) (w : World) (hs : s.size ≤ 400) (he : Env w.heap.size pe pl w) (n k : Nat) (t : ByteArray) (b : Bool) (ht : t.toList.isEmpty = !b) (hh : Calls Tryd.prog 39 #[.string s] w fun e w' => e = .returned (.agg #[.int .i64 n, .string t, .int .i64 k, .int .i64 0]) ∧ Below w.heap.size w w')
    (hi : ∀ W, Below w.heap.size w W → Calls Tryd.prog 40 #[.string s] W fun e w' => e = .returned (.tuple #[.int .i64 n, .string t, .bool b, .int .i64 k, .string ⟨#[]⟩]) ∧ Below W.heap.size W w') :
    Calls Tryd.prog 16 #[.string s] w fun e w' => e = .returned (.bool true) ∧ Below w.heap.size w w' := by
  have HE := Lib.hid he
  have HH := Lib.hid hh
  have hc : ¬ 2147483647 < (s.size : Int) := by omega
  have hc2 : ¬ 400 < (s.size : Int) := by omega
  have HI := Lib.hid hi
  clear hs he hh hi
  go_enter Tryd.func16, Tryd.ntmps16
  go_wp2_with (first
    | (go_at_call 39; go_loud (refine HH.out.mono ?_; rintro e_ w1 ⟨rfl, hb1⟩; have HB1 := Lib.hid hb1; clear hb1))
    | (go_at_call 40; go_loud (refine (HI.out _ (HB1.out.alloc HB1.out.size _)).mono ?_; rintro e_ w2 ⟨rfl, hb2⟩; have HB2 := Lib.hid ((HB1.out.alloc HB1.out.size _).trans (hb2.mono (by have := HB1.out.size; simp; omega))); obtain ⟨hc_, hf_⟩ := (⟨fun o => hb2.cell (p := ⟨w1.heap.size, o, none⟩) (by simp), trivial⟩ : (∀ o, w2.cell? ⟨w1.heap.size, o, none⟩ = _) ∧ True); have y0 := (hc_ 0).trans ((blk_cell (heap_alloc_new w1 _) 0).trans rfl); have y1 := (hc_ 1).trans ((blk_cell (heap_alloc_new w1 _) 1).trans rfl); have y2 := (hc_ 2).trans ((blk_cell (heap_alloc_new w1 _) 2).trans rfl); have y3 := (hc_ 3).trans ((blk_cell (heap_alloc_new w1 _) 3).trans rfl); have HLT := Lib.hid (show w1.heap.size < w2.heap.size by have := hb2.size; simp at this; omega); clear hc_ hb2))
    | (go_at_call 21; go_loud (refine (awake_any w.heap.size pe pl w2 (HE.out.below HB2.out) HB2.out.size).mono ?_; rintro e_ w3 ⟨rfl, hb3⟩; have HB3 := Lib.hid (HB2.out.trans (hb3.mono HB2.out.size)); have z0 := (hb3.cell (p := ⟨w1.heap.size, 0, none⟩) HLT.out).trans y0; have z1 := (hb3.cell (p := ⟨w1.heap.size, 1, none⟩) HLT.out).trans y1; have z2 := (hb3.cell (p := ⟨w1.heap.size, 2, none⟩) HLT.out).trans y2; have z3 := (hb3.cell (p := ⟨w1.heap.size, 3, none⟩) HLT.out).trans y3; clear hb3)))
  go_ret
  exact ⟨rfl, HB3.out⟩
end Go.Proofs.YtgdbeiadlgkedaaDoor
