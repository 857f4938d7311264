/- Contracts and plain laws, several texts in one. -/
import Derived.Test.YtgdbeiadlgkedaaDoorMRowBack2
import Derived.Test.YtgdbeiadlgkedaaDoorWMore
import Derived.Test.YtgdbeiadlgkedaaDoorWNEv
import Derived.Test.YtgdbeiadlgkedaaDoorWLast
import Derived.Laws.CopyRow
/- Contracts: DecodeValue of kind 11. -/
namespace Go.Proofs.YtgdbeiadlgkedaaDoor
open Go.RowKit
set_option linter.unusedVariables false
set_option linter.unusedSimpArgs false

set_option maxHeartbeats 8000000 in
set_option maxRecDepth 100000 in
theorem decVal_11_ok (B : Nat) (pe pl : Addr) (t : ByteArray) (w : World) (ht : t.size ≤ 4294967296) (he : Env B pe pl w) (hB : B ≤ w.heap.size) (v k : Nat) (hR : vrd 0 0 t.data.toList = some (v, k)) :
    Calls Tryd.prog 20 #[.int .i64 11, .string t] w fun e w' => e = .returned (.tuple #[.agg #[(.int .i64 11), (.bool false), (.int .i64 (wrap64 (v : Nat))), (.int .u64 0), (.int .u64 0), (.string ⟨#[]⟩), (.int .i64 0), (.bool false), (.bool false), (.int .i64 0), (.int .i64 0)], .int .i64 (k : Nat), .string ⟨#[]⟩]) ∧ Below w.heap.size w w' := by
  have kc := conv_bytes
  have HT := Lib.hid (And.intro ht (And.intro he hB))
  have HY := Lib.hid hR
  clear ht he hB hR
  go_enter Tryd.func20, Tryd.ntmps20
  go_wp2_with (first
    | (go_at_call 45; go_loud (refine (newRd_any (w.alloc (.cells (zv 0) 26)) (w.heap.size + 1) (World.size_alloc ..) t HT.out.1).mono ?_; rintro e_ w1 ⟨r, rfl, hr1, hr2, hr3⟩; obtain ⟨hs1, hs2, hs3, hs4⟩ := dv_start (b := 0) HT.out.2.2 HT.out.2.1 hr2 hr3; have y0 : w1.cell? ⟨w.heap.size, 0, none⟩ = some (.int .i64 0) := (blk_cell hs1 0).trans rfl; have g0 : w1.frozen? ⟨w.heap.size, 0, none⟩ = false := blk_frozen hs1 0; have HS := Lib.hid (And.intro hr1 (And.intro hs1 (And.intro hs2 (And.intro hs3 hs4)))); have HR3 := Lib.hid hr3; clear hr1 hr2 hr3 hs1 hs2 hs3 hs4))
    | (go_at_call 60; go_loud (refine (decVarI_ok B pe pl r (w.heap.size + 1) t.data.toList 0 v k _ ?rd ?en HS.out.2.2.2.2 HY.out).mono ?_; (case rd => exact HS.out.1.set _ _ (by have := HR3.out; show w.heap.size ≠ r; omega) (by show w.heap.size ≠ w.heap.size + 1; omega)); (case en => exact HS.out.2.2.1.below ((Below.refl _ _).setCell (by exact HT.out.2.2) _)); rintro e_ w2 ⟨rfl, hg, hrd⟩; have hb2 : w2.heap[w.heap.size]? = some (.cells (zv 11) 26 (0, 0)) := (hg.block _ (by have := blk_lt HS.out.2.1; simpa [World.setCell] using this) (by have := HR3.out; intro e; cases e; omega)).trans ((Lib.heap_setCell_same (i := 0) HS.out.2.1 (.int .i64 11)).trans rfl); have c0 : w2.cell? ⟨w.heap.size, 0, none⟩ = some (.int .i64 11) := (blk_cell hb2 0).trans rfl; have f0 : w2.frozen? ⟨w.heap.size, 0, none⟩ = false := blk_frozen hb2 0; have c1 : w2.cell? ⟨w.heap.size, 1, none⟩ = some (.bool false) := (blk_cell hb2 1).trans rfl; have f1 : w2.frozen? ⟨w.heap.size, 1, none⟩ = false := blk_frozen hb2 1; have c2 : w2.cell? ⟨w.heap.size, 2, none⟩ = some (.int .i64 0) := (blk_cell hb2 2).trans rfl; have f2 : w2.frozen? ⟨w.heap.size, 2, none⟩ = false := blk_frozen hb2 2; have c3 : w2.cell? ⟨w.heap.size, 3, none⟩ = some (.int .u64 0) := (blk_cell hb2 3).trans rfl; have f3 : w2.frozen? ⟨w.heap.size, 3, none⟩ = false := blk_frozen hb2 3; have c4 : w2.cell? ⟨w.heap.size, 4, none⟩ = some (.int .u64 0) := (blk_cell hb2 4).trans rfl; have f4 : w2.frozen? ⟨w.heap.size, 4, none⟩ = false := blk_frozen hb2 4; have c5 : w2.cell? ⟨w.heap.size, 5, none⟩ = some (.string ⟨#[]⟩) := (blk_cell hb2 5).trans rfl; have f5 : w2.frozen? ⟨w.heap.size, 5, none⟩ = false := blk_frozen hb2 5; have c6 : w2.cell? ⟨w.heap.size, 6, none⟩ = some (.int .i64 0) := (blk_cell hb2 6).trans rfl; have f6 : w2.frozen? ⟨w.heap.size, 6, none⟩ = false := blk_frozen hb2 6; have c7 : w2.cell? ⟨w.heap.size, 7, none⟩ = some (.bool false) := (blk_cell hb2 7).trans rfl; have f7 : w2.frozen? ⟨w.heap.size, 7, none⟩ = false := blk_frozen hb2 7; have c8 : w2.cell? ⟨w.heap.size, 8, none⟩ = some (.bool false) := (blk_cell hb2 8).trans rfl; have f8 : w2.frozen? ⟨w.heap.size, 8, none⟩ = false := blk_frozen hb2 8; have c9 : w2.cell? ⟨w.heap.size, 9, none⟩ = some (.int .i64 0) := (blk_cell hb2 9).trans rfl; have f9 : w2.frozen? ⟨w.heap.size, 9, none⟩ = false := blk_frozen hb2 9; have c10 : w2.cell? ⟨w.heap.size, 10, none⟩ = some (.int .i64 0) := (blk_cell hb2 10).trans rfl; have f10 : w2.frozen? ⟨w.heap.size, 10, none⟩ = false := blk_frozen hb2 10; rw [Nat.zero_add] at hrd; have HB0 := Lib.hid hb2; have HG := Lib.hid hg; have HD := Lib.hid hrd; clear hg hrd hb2)))
  obtain ⟨W, hW⟩ : ∃ W, W = w2.setCell ⟨w.heap.size, 2, none⟩ (.int .i64 (wrap64 (v : Nat))) := ⟨_, rfl⟩
  have HB2 := Lib.hid (show W.heap[w.heap.size]? = some (.cells #[(.int .i64 11), (.bool false), (.int .i64 (wrap64 (v : Nat))), (.int .u64 0), (.int .u64 0), (.string ⟨#[]⟩), (.int .i64 0), (.bool false), (.bool false), (.int .i64 0), (.int .i64 0)] 26 (0, 0)) by
    rw [hW]; exact (Lib.heap_setCell_same (i := 2) HB0.out (.int .i64 (wrap64 (v : Nat)))).trans rfl)
  have HD2 := Lib.hid (show Rd r (w.heap.size + 1) t.data.toList k W by
    rw [hW]; exact HD.out.set ⟨w.heap.size, 2, none⟩ _ (by have := HR3.out; show w.heap.size ≠ r; omega) (by show w.heap.size ≠ w.heap.size + 1; omega))
  rw [← hW]
  have HW := Lib.hid hW
  clear hW c0 f0 c1 f1 c2 f2 c3 f3 c4 f4 c5 f5 c6 f6 c7 f7 c8 f8 c9 f9 c10 f10
  have c0 : W.cell? ⟨w.heap.size, 0, none⟩ = some (.int .i64 11) := (blk_cell HB2.out 0).trans rfl
  have f0 : W.frozen? ⟨w.heap.size, 0, none⟩ = false := blk_frozen HB2.out 0
  have c1 : W.cell? ⟨w.heap.size, 1, none⟩ = some (.bool false) := (blk_cell HB2.out 1).trans rfl
  have f1 : W.frozen? ⟨w.heap.size, 1, none⟩ = false := blk_frozen HB2.out 1
  have c2 : W.cell? ⟨w.heap.size, 2, none⟩ = some (.int .i64 (wrap64 (v : Nat))) := (blk_cell HB2.out 2).trans rfl
  have f2 : W.frozen? ⟨w.heap.size, 2, none⟩ = false := blk_frozen HB2.out 2
  have c3 : W.cell? ⟨w.heap.size, 3, none⟩ = some (.int .u64 0) := (blk_cell HB2.out 3).trans rfl
  have f3 : W.frozen? ⟨w.heap.size, 3, none⟩ = false := blk_frozen HB2.out 3
  have c4 : W.cell? ⟨w.heap.size, 4, none⟩ = some (.int .u64 0) := (blk_cell HB2.out 4).trans rfl
  have f4 : W.frozen? ⟨w.heap.size, 4, none⟩ = false := blk_frozen HB2.out 4
  have c5 : W.cell? ⟨w.heap.size, 5, none⟩ = some (.string ⟨#[]⟩) := (blk_cell HB2.out 5).trans rfl
  have f5 : W.frozen? ⟨w.heap.size, 5, none⟩ = false := blk_frozen HB2.out 5
  have c6 : W.cell? ⟨w.heap.size, 6, none⟩ = some (.int .i64 0) := (blk_cell HB2.out 6).trans rfl
  have f6 : W.frozen? ⟨w.heap.size, 6, none⟩ = false := blk_frozen HB2.out 6
  have c7 : W.cell? ⟨w.heap.size, 7, none⟩ = some (.bool false) := (blk_cell HB2.out 7).trans rfl
  have f7 : W.frozen? ⟨w.heap.size, 7, none⟩ = false := blk_frozen HB2.out 7
  have c8 : W.cell? ⟨w.heap.size, 8, none⟩ = some (.bool false) := (blk_cell HB2.out 8).trans rfl
  have f8 : W.frozen? ⟨w.heap.size, 8, none⟩ = false := blk_frozen HB2.out 8
  have c9 : W.cell? ⟨w.heap.size, 9, none⟩ = some (.int .i64 0) := (blk_cell HB2.out 9).trans rfl
  have f9 : W.frozen? ⟨w.heap.size, 9, none⟩ = false := blk_frozen HB2.out 9
  have c10 : W.cell? ⟨w.heap.size, 10, none⟩ = some (.int .i64 0) := (blk_cell HB2.out 10).trans rfl
  have f10 : W.frozen? ⟨w.heap.size, 10, none⟩ = false := blk_frozen HB2.out 10
  have qs : (t.size : Int) - ((t.data.toList.length - k : Nat) : Int) = (k : Nat) := by
    have h1 := HD2.out.le
    have h2 : t.data.toList.length = t.size := by rw [Array.length_toList]; rfl
    omega
  have qs2 : IntKind.i64.wrap ((k : Nat) : Int) = (k : Nat) := IntWalk.i64_in _ (by have := HD2.out.le; have := HD2.out.len; omega)
  obtain ⟨L, hL⟩ : ∃ L, Hid (t.data.toList.length - k = L) := ⟨_, Lib.hid rfl⟩
  rw [hL.out] at qs
  go_region_with (first | (go_at_call 62; refine (len_any r (w.heap.size + 1) t.data.toList k _ ?rd).mono ?_; (case rd => exact HD2.out.drewN 1); rw [hL.out]; rintro e_ w4 ⟨rfl, q4, rfl⟩) | (go_at_call 63; refine (word_nil _).mono ?_; rintro e_ w5 ⟨rfl, rfl⟩))
  all_goals
    refine (by assumption : ∀ (a : Act) (w : World), Code.wp _ Code.ret _ a w → _) _ _ ?_
    go_wp2
    obtain ⟨X, hX⟩ : ∃ X, X = (W.drewN (1 + q4)).setCells w.heap.size 0 [(.int .i64 11), (.bool false), (.int .i64 (wrap64 (v : Nat))), (.int .u64 0), (.int .u64 0), (.string ⟨#[]⟩), (.int .i64 0), (.bool false), (.bool false), (.int .i64 0), (.int .i64 0)] := ⟨_, rfl⟩
    have hXb : X.heap[w.heap.size]? = some (.cells #[(.int .i64 11), (.bool false), (.int .i64 (wrap64 (v : Nat))), (.int .u64 0), (.int .u64 0), (.string ⟨#[]⟩), (.int .i64 0), (.bool false), (.bool false), (.int .i64 0), (.int .i64 0)] 26 (0, 0)) := by
      rw [hX]; exact setCells_self _ _ _ _ _ 0 (W.drewN (1 + q4)) HB2.out (fun j v hj => by rw [Nat.zero_add]; simpa using hj)
    have hXw : Below w.heap.size w X := by
      rw [hX]
      exact (dv_below HS.out.2.2.2.1 HG.out HW.out (by have := HR3.out; omega)).trans (Lib.below_setCells_w (Nat.le_refl _) _ _ _)
    simp only [World.setCells] at hX
    rw [← hX]
    have HX := Lib.hid hXw
    clear hX hXw c0 f0 c1 f1 c2 f2 c3 f3 c4 f4 c5 f5 c6 f6 c7 f7 c8 f8 c9 f9 c10 f10
    have c0 : X.cell? ⟨w.heap.size, 0, none⟩ = some (.int .i64 11) := (blk_cell hXb 0).trans rfl
    have c1 : X.cell? ⟨w.heap.size, 1, none⟩ = some (.bool false) := (blk_cell hXb 1).trans rfl
    have c2 : X.cell? ⟨w.heap.size, 2, none⟩ = some (.int .i64 (wrap64 (v : Nat))) := (blk_cell hXb 2).trans rfl
    have c3 : X.cell? ⟨w.heap.size, 3, none⟩ = some (.int .u64 0) := (blk_cell hXb 3).trans rfl
    have c4 : X.cell? ⟨w.heap.size, 4, none⟩ = some (.int .u64 0) := (blk_cell hXb 4).trans rfl
    have c5 : X.cell? ⟨w.heap.size, 5, none⟩ = some (.string ⟨#[]⟩) := (blk_cell hXb 5).trans rfl
    have c6 : X.cell? ⟨w.heap.size, 6, none⟩ = some (.int .i64 0) := (blk_cell hXb 6).trans rfl
    have c7 : X.cell? ⟨w.heap.size, 7, none⟩ = some (.bool false) := (blk_cell hXb 7).trans rfl
    have c8 : X.cell? ⟨w.heap.size, 8, none⟩ = some (.bool false) := (blk_cell hXb 8).trans rfl
    have c9 : X.cell? ⟨w.heap.size, 9, none⟩ = some (.int .i64 0) := (blk_cell hXb 9).trans rfl
    have c10 : X.cell? ⟨w.heap.size, 10, none⟩ = some (.int .i64 0) := (blk_cell hXb 10).trans rfl
    clear hXb
    refine bodyPost_ret (v := .tuple #[.agg #[(.int .i64 11), (.bool false), (.int .i64 (wrap64 (v : Nat))), (.int .u64 0), (.int .u64 0), (.string ⟨#[]⟩), (.int .i64 0), (.bool false), (.bool false), (.int .i64 0), (.int .i64 0)], .int .i64 (k : Nat), .string ⟨#[]⟩]) (by simp [results, Tryd.results20, go_sem, c0, c1, c2, c3, c4, c5, c6, c7, c8, c9, c10]; try rfl) rfl ⟨rfl, HX.out⟩
set_option maxHeartbeats 8000000 in
set_option maxRecDepth 100000 in
theorem decVal_11_bad (B : Nat) (pe pl : Addr) (t : ByteArray) (w : World) (ht : t.size ≤ 4294967296) (he : Env B pe pl w) (hB : B ≤ w.heap.size) (hR : vrd 0 0 t.data.toList = none) :
    Calls Tryd.prog 20 #[.int .i64 11, .string t] w fun e w' => ∃ (n : Nat) (s : ByteArray), e = .returned (.tuple #[.agg #[(.int .i64 11), (.bool false), (.int .i64 0), (.int .u64 0), (.int .u64 0), (.string ⟨#[]⟩), (.int .i64 0), (.bool false), (.bool false), (.int .i64 0), (.int .i64 0)], .int .i64 n, .string s]) ∧ n ≤ t.size ∧ s.data.toList ≠ [] ∧ Below w.heap.size w w' := by
  have kc := conv_bytes
  have HT := Lib.hid (And.intro ht (And.intro he hB))
  have HY := Lib.hid hR
  clear ht he hB hR
  go_enter Tryd.func20, Tryd.ntmps20
  go_wp2_with (first
    | (go_at_call 45; go_loud (refine (newRd_any (w.alloc (.cells (zv 0) 26)) (w.heap.size + 1) (World.size_alloc ..) t HT.out.1).mono ?_; rintro e_ w1 ⟨r, rfl, hr1, hr2, hr3⟩; obtain ⟨hs1, hs2, hs3, hs4⟩ := dv_start (b := 0) HT.out.2.2 HT.out.2.1 hr2 hr3; have y0 : w1.cell? ⟨w.heap.size, 0, none⟩ = some (.int .i64 0) := (blk_cell hs1 0).trans rfl; have g0 : w1.frozen? ⟨w.heap.size, 0, none⟩ = false := blk_frozen hs1 0; have HS := Lib.hid (And.intro hr1 (And.intro hs1 (And.intro hs2 (And.intro hs3 hs4)))); have HR3 := Lib.hid hr3; clear hr1 hr2 hr3 hs1 hs2 hs3 hs4))
    | (go_at_call 60; go_loud (refine (decVarI_bad B pe pl r (w.heap.size + 1) t.data.toList 0 _ ?rd ?en HS.out.2.2.2.2 HY.out).mono ?_; (case rd => exact HS.out.1.set _ _ (by have := HR3.out; show w.heap.size ≠ r; omega) (by show w.heap.size ≠ w.heap.size + 1; omega)); (case en => exact HS.out.2.2.1.below ((Below.refl _ _).setCell (by exact HT.out.2.2) _)); rintro e_ w2 ⟨ev, rfl, hg, hev, i', hrd⟩; obtain ⟨ea, es, rfl, hea, hes⟩ := hev; have HEA := Lib.hid (And.intro hea hes); have hb2 : w2.heap[w.heap.size]? = some (.cells (zv 11) 26 (0, 0)) := (hg.block _ (by have := blk_lt HS.out.2.1; simpa [World.setCell] using this) (by have := HR3.out; intro e; cases e; omega)).trans ((Lib.heap_setCell_same (i := 0) HS.out.2.1 (.int .i64 11)).trans rfl); have c0 : w2.cell? ⟨w.heap.size, 0, none⟩ = some (.int .i64 11) := (blk_cell hb2 0).trans rfl; have f0 : w2.frozen? ⟨w.heap.size, 0, none⟩ = false := blk_frozen hb2 0; have c1 : w2.cell? ⟨w.heap.size, 1, none⟩ = some (.bool false) := (blk_cell hb2 1).trans rfl; have f1 : w2.frozen? ⟨w.heap.size, 1, none⟩ = false := blk_frozen hb2 1; have c2 : w2.cell? ⟨w.heap.size, 2, none⟩ = some (.int .i64 0) := (blk_cell hb2 2).trans rfl; have f2 : w2.frozen? ⟨w.heap.size, 2, none⟩ = false := blk_frozen hb2 2; have c3 : w2.cell? ⟨w.heap.size, 3, none⟩ = some (.int .u64 0) := (blk_cell hb2 3).trans rfl; have f3 : w2.frozen? ⟨w.heap.size, 3, none⟩ = false := blk_frozen hb2 3; have c4 : w2.cell? ⟨w.heap.size, 4, none⟩ = some (.int .u64 0) := (blk_cell hb2 4).trans rfl; have f4 : w2.frozen? ⟨w.heap.size, 4, none⟩ = false := blk_frozen hb2 4; have c5 : w2.cell? ⟨w.heap.size, 5, none⟩ = some (.string ⟨#[]⟩) := (blk_cell hb2 5).trans rfl; have f5 : w2.frozen? ⟨w.heap.size, 5, none⟩ = false := blk_frozen hb2 5; have c6 : w2.cell? ⟨w.heap.size, 6, none⟩ = some (.int .i64 0) := (blk_cell hb2 6).trans rfl; have f6 : w2.frozen? ⟨w.heap.size, 6, none⟩ = false := blk_frozen hb2 6; have c7 : w2.cell? ⟨w.heap.size, 7, none⟩ = some (.bool false) := (blk_cell hb2 7).trans rfl; have f7 : w2.frozen? ⟨w.heap.size, 7, none⟩ = false := blk_frozen hb2 7; have c8 : w2.cell? ⟨w.heap.size, 8, none⟩ = some (.bool false) := (blk_cell hb2 8).trans rfl; have f8 : w2.frozen? ⟨w.heap.size, 8, none⟩ = false := blk_frozen hb2 8; have c9 : w2.cell? ⟨w.heap.size, 9, none⟩ = some (.int .i64 0) := (blk_cell hb2 9).trans rfl; have f9 : w2.frozen? ⟨w.heap.size, 9, none⟩ = false := blk_frozen hb2 9; have c10 : w2.cell? ⟨w.heap.size, 10, none⟩ = some (.int .i64 0) := (blk_cell hb2 10).trans rfl; have f10 : w2.frozen? ⟨w.heap.size, 10, none⟩ = false := blk_frozen hb2 10; have HB0 := Lib.hid hb2; have HG := Lib.hid hg; have HD := Lib.hid hrd; clear hea hes hg hrd hb2)))
  obtain ⟨W, hW⟩ : ∃ W, W = w2.setCell ⟨w.heap.size, 2, none⟩ (.int .i64 0) := ⟨_, rfl⟩
  have HB2 := Lib.hid (show W.heap[w.heap.size]? = some (.cells #[(.int .i64 11), (.bool false), (.int .i64 0), (.int .u64 0), (.int .u64 0), (.string ⟨#[]⟩), (.int .i64 0), (.bool false), (.bool false), (.int .i64 0), (.int .i64 0)] 26 (0, 0)) by
    rw [hW]; exact (Lib.heap_setCell_same (i := 2) HB0.out (.int .i64 0)).trans rfl)
  have HD2 := Lib.hid (show Rd r (w.heap.size + 1) t.data.toList i' W by
    rw [hW]; exact HD.out.set ⟨w.heap.size, 2, none⟩ _ (by have := HR3.out; show w.heap.size ≠ r; omega) (by show w.heap.size ≠ w.heap.size + 1; omega))
  have HEW := Lib.hid (show W.cell? ea = some (.string es) by
    rw [hW]; exact (World.cell?_of_block (a := ea) (same_set HB0.out (i := 2) (by rfl) _)).trans HEA.out.1)
  rw [← hW]
  have HW := Lib.hid hW
  clear hW c0 f0 c1 f1 c2 f2 c3 f3 c4 f4 c5 f5 c6 f6 c7 f7 c8 f8 c9 f9 c10 f10
  have c0 : W.cell? ⟨w.heap.size, 0, none⟩ = some (.int .i64 11) := (blk_cell HB2.out 0).trans rfl
  have f0 : W.frozen? ⟨w.heap.size, 0, none⟩ = false := blk_frozen HB2.out 0
  have c1 : W.cell? ⟨w.heap.size, 1, none⟩ = some (.bool false) := (blk_cell HB2.out 1).trans rfl
  have f1 : W.frozen? ⟨w.heap.size, 1, none⟩ = false := blk_frozen HB2.out 1
  have c2 : W.cell? ⟨w.heap.size, 2, none⟩ = some (.int .i64 0) := (blk_cell HB2.out 2).trans rfl
  have f2 : W.frozen? ⟨w.heap.size, 2, none⟩ = false := blk_frozen HB2.out 2
  have c3 : W.cell? ⟨w.heap.size, 3, none⟩ = some (.int .u64 0) := (blk_cell HB2.out 3).trans rfl
  have f3 : W.frozen? ⟨w.heap.size, 3, none⟩ = false := blk_frozen HB2.out 3
  have c4 : W.cell? ⟨w.heap.size, 4, none⟩ = some (.int .u64 0) := (blk_cell HB2.out 4).trans rfl
  have f4 : W.frozen? ⟨w.heap.size, 4, none⟩ = false := blk_frozen HB2.out 4
  have c5 : W.cell? ⟨w.heap.size, 5, none⟩ = some (.string ⟨#[]⟩) := (blk_cell HB2.out 5).trans rfl
  have f5 : W.frozen? ⟨w.heap.size, 5, none⟩ = false := blk_frozen HB2.out 5
  have c6 : W.cell? ⟨w.heap.size, 6, none⟩ = some (.int .i64 0) := (blk_cell HB2.out 6).trans rfl
  have f6 : W.frozen? ⟨w.heap.size, 6, none⟩ = false := blk_frozen HB2.out 6
  have c7 : W.cell? ⟨w.heap.size, 7, none⟩ = some (.bool false) := (blk_cell HB2.out 7).trans rfl
  have f7 : W.frozen? ⟨w.heap.size, 7, none⟩ = false := blk_frozen HB2.out 7
  have c8 : W.cell? ⟨w.heap.size, 8, none⟩ = some (.bool false) := (blk_cell HB2.out 8).trans rfl
  have f8 : W.frozen? ⟨w.heap.size, 8, none⟩ = false := blk_frozen HB2.out 8
  have c9 : W.cell? ⟨w.heap.size, 9, none⟩ = some (.int .i64 0) := (blk_cell HB2.out 9).trans rfl
  have f9 : W.frozen? ⟨w.heap.size, 9, none⟩ = false := blk_frozen HB2.out 9
  have c10 : W.cell? ⟨w.heap.size, 10, none⟩ = some (.int .i64 0) := (blk_cell HB2.out 10).trans rfl
  have f10 : W.frozen? ⟨w.heap.size, 10, none⟩ = false := blk_frozen HB2.out 10
  have qs : (t.size : Int) - ((t.data.toList.length - i' : Nat) : Int) = (i' : Nat) := by
    have h1 := HD2.out.le
    have h2 : t.data.toList.length = t.size := by rw [Array.length_toList]; rfl
    omega
  have qs2 : IntKind.i64.wrap ((i' : Nat) : Int) = (i' : Nat) := IntWalk.i64_in _ (by have := HD2.out.le; have := HD2.out.len; omega)
  obtain ⟨L, hL⟩ : ∃ L, Hid (t.data.toList.length - i' = L) := ⟨_, Lib.hid rfl⟩
  rw [hL.out] at qs
  go_region_with (first | (go_at_call 62; refine (len_any r (w.heap.size + 1) t.data.toList i' _ ?rd).mono ?_; (case rd => exact HD2.out.drewN 1); rw [hL.out]; rintro e_ w4 ⟨rfl, q4, rfl⟩) | (go_at_call 63; refine (word_err ea es _ ?wd).mono ?_; (case wd => exact HEW.out); rintro e_ w5 ⟨rfl, rfl⟩))
  all_goals
    refine (by assumption : ∀ (a : Act) (w : World), Code.wp _ Code.ret _ a w → _) _ _ ?_
    go_wp2
    obtain ⟨X, hX⟩ : ∃ X, X = (W.drewN (1 + q4)).setCells w.heap.size 0 [(.int .i64 11), (.bool false), (.int .i64 0), (.int .u64 0), (.int .u64 0), (.string ⟨#[]⟩), (.int .i64 0), (.bool false), (.bool false), (.int .i64 0), (.int .i64 0)] := ⟨_, rfl⟩
    have hXb : X.heap[w.heap.size]? = some (.cells #[(.int .i64 11), (.bool false), (.int .i64 0), (.int .u64 0), (.int .u64 0), (.string ⟨#[]⟩), (.int .i64 0), (.bool false), (.bool false), (.int .i64 0), (.int .i64 0)] 26 (0, 0)) := by
      rw [hX]; exact setCells_self _ _ _ _ _ 0 (W.drewN (1 + q4)) HB2.out (fun j v hj => by rw [Nat.zero_add]; simpa using hj)
    have hXw : Below w.heap.size w X := by
      rw [hX]
      exact (dv_below HS.out.2.2.2.1 HG.out HW.out (by have := HR3.out; omega)).trans (Lib.below_setCells_w (Nat.le_refl _) _ _ _)
    simp only [World.setCells] at hX
    rw [← hX]
    have HX := Lib.hid hXw
    clear hX hXw c0 f0 c1 f1 c2 f2 c3 f3 c4 f4 c5 f5 c6 f6 c7 f7 c8 f8 c9 f9 c10 f10
    have c0 : X.cell? ⟨w.heap.size, 0, none⟩ = some (.int .i64 11) := (blk_cell hXb 0).trans rfl
    have c1 : X.cell? ⟨w.heap.size, 1, none⟩ = some (.bool false) := (blk_cell hXb 1).trans rfl
    have c2 : X.cell? ⟨w.heap.size, 2, none⟩ = some (.int .i64 0) := (blk_cell hXb 2).trans rfl
    have c3 : X.cell? ⟨w.heap.size, 3, none⟩ = some (.int .u64 0) := (blk_cell hXb 3).trans rfl
    have c4 : X.cell? ⟨w.heap.size, 4, none⟩ = some (.int .u64 0) := (blk_cell hXb 4).trans rfl
    have c5 : X.cell? ⟨w.heap.size, 5, none⟩ = some (.string ⟨#[]⟩) := (blk_cell hXb 5).trans rfl
    have c6 : X.cell? ⟨w.heap.size, 6, none⟩ = some (.int .i64 0) := (blk_cell hXb 6).trans rfl
    have c7 : X.cell? ⟨w.heap.size, 7, none⟩ = some (.bool false) := (blk_cell hXb 7).trans rfl
    have c8 : X.cell? ⟨w.heap.size, 8, none⟩ = some (.bool false) := (blk_cell hXb 8).trans rfl
    have c9 : X.cell? ⟨w.heap.size, 9, none⟩ = some (.int .i64 0) := (blk_cell hXb 9).trans rfl
    have c10 : X.cell? ⟨w.heap.size, 10, none⟩ = some (.int .i64 0) := (blk_cell hXb 10).trans rfl
    clear hXb
    refine bodyPost_ret (v := .tuple #[.agg #[(.int .i64 11), (.bool false), (.int .i64 0), (.int .u64 0), (.int .u64 0), (.string ⟨#[]⟩), (.int .i64 0), (.bool false), (.bool false), (.int .i64 0), (.int .i64 0)], .int .i64 (i' : Nat), .string es]) (by simp [results, Tryd.results20, go_sem, c0, c1, c2, c3, c4, c5, c6, c7, c8, c9, c10]; try rfl) rfl ⟨i', es, rfl, by have := HD2.out.le; have h2 : t.data.toList.length = t.size := (by rw [Array.length_toList]; rfl); omega, HEA.out.2, HX.out⟩
end Go.Proofs.YtgdbeiadlgkedaaDoor

/- 'codAwake' answers true. -/
namespace Go.Proofs.YtgdbeiadlgkedaaDoor
open Go.RowKit
set_option linter.unusedVariables false
set_option linter.unusedSimpArgs false

theorem uv300 : Lib.uvarint (u64of 300) = [172, 2] := by
  rw [show u64of 300 = 300 by decide, Lib.uvarint_big (by decide), Lib.uvarint_small (by decide)]; rfl
theorem vrd300 : vrd 0 0 (ByteArray.mk #[172, 2, 120]).data.toList = some (300, 2) := by decide
set_option maxHeartbeats 4000000 in
set_option maxRecDepth 100000 in
theorem awake_any (B : Nat) (pe pl : Addr) (w : World) (he : Env B pe pl w) (hB : B ≤ w.heap.size) :
    Calls Tryd.prog 21 #[] w fun e w' => e = .returned (.bool true) ∧ Below w.heap.size w w' := by
  have HC := Lib.hid (encVal_11 false 300 0 0 ⟨#[]⟩ 0 false false 0 0 w)
  have HV := Lib.hid uv300
  have HE := Lib.hid (And.intro he hB)
  clear he hB
  have HW : Hid (wrap64 ((300 : Nat) : Int) = 300) := Lib.hid (by unfold wrap64; omega)
  go_enter Tryd.func21, Tryd.ntmps21
  go_wp2_with (first
    | (go_at_call 27; go_loud (refine HC.out.mono ?_; rintro e_ w1 ⟨rfl, hb1⟩; rw [HV.out]; have HB := Lib.hid hb1; clear hb1))
    | (go_at_call 20; go_loud (refine (decVal_11_ok B pe pl ⟨#[172, 2, 120]⟩ w1 (by decide) (HE.out.1.below (HB.out.mono HE.out.2)) (Nat.le_trans HE.out.2 HB.out.size) 300 2 vrd300).mono ?_; rintro e_ w2 ⟨rfl, hb2⟩; rw [HW.out]; have HB2 := Lib.hid (HB.out.trans (hb2.mono HB.out.size)); clear hb2)))
  go_ret
  exact ⟨rfl, HB2.out.alloc HB2.out.size _⟩
end Go.Proofs.YtgdbeiadlgkedaaDoor

/- Contracts: writes into a buffer with room: what is not the buffer's stays. -/
set_option linter.unusedVariables false
set_option linter.unusedSimpArgs false
namespace Go.Proofs.YtgdbeiadlgkedaaDoor
open Go.RowKit Go.Proofs.YtgdbeiadlgkedaaDoorW.PrintWords Go.Proofs.YtgdbeiadlgkedaaDoorW.PrintLast Go.Proofs.YtgdbeiadlgkedaaDoorW.PrintMore
/-- A buffer of room 64 in the blocks b, g, holding l. -/
def BR (b g : Nat) (l : List UInt8) (w : World) : Prop :=
  ∃ lr cur, w.heap[b]? = some (.cells #[.slice (some ⟨g, 0, none⟩) l.length 64, .int .i64 0, .int .i8 lr] 129 (0, 0)) ∧ w.heap[g]? = some (.cells cur 5 (0, 0)) ∧ cur.size = 64 ∧ cur.toList.take l.length = Lib.byteCells l ∧ g ≠ b
/-- All but the two blocks stay. -/
def Kp (b g : Nat) (w w' : World) : Prop := w'.os = w.os ∧ w'.tape = w.tape ∧ w'.output = w.output ∧ w.heap.size ≤ w'.heap.size ∧ ∀ k, k < w.heap.size → k ≠ b → k ≠ g → w'.heap[k]? = w.heap[k]?
theorem Kp.trans {b g : Nat} {w w1 w2 : World} (h : Kp b g w w1) (k : Kp b g w1 w2) : Kp b g w w2 :=
  ⟨k.1.trans h.1, k.2.1.trans h.2.1, k.2.2.1.trans h.2.2.1, Nat.le_trans h.2.2.2.1 k.2.2.2.1, fun q hq hb hg => (k.2.2.2.2 q (Nat.lt_of_lt_of_le hq h.2.2.2.1) hb hg).trans (h.2.2.2.2 q hq hb hg)⟩
theorem Kp.at {b g : Nat} {w w' : World} (h : Kp b g w w') {a : Addr} {l : List UInt8} (hs : At w a l) (hlt : a.block < w.heap.size) (h1 : a.block ≠ b) (h2 : a.block ≠ g) : At w' a l := hs.kept (h.2.2.2.2 a.block hlt h1 h2)
set_option maxHeartbeats 3200000 in
set_option maxRecDepth 100000 in
theorem write_room (b g : Nat) (l l2 : List UInt8) (a : Addr) (n c : Nat) (w : World) (h : BR b g l w) (hn : l2.length = n) (hn1 : l.length < 64) (hr : l.length + n ≤ 64) (h1 : a.block ≠ b) (h2 : a.block ≠ g) (hs : At w a l2) :
    Calls Tryd.prog 132 #[.pointer (some ⟨b, 0, none⟩), .slice (some a) n c] w fun e w' => e = .returned (.tuple #[.int .i64 n, .nilIface]) ∧ BR b g (l ++ l2) w' ∧ Kp b g w w' := by
  obtain ⟨lr, cur, hb, hg, hcs, htk, hgb⟩ := h
  have x0 := (blk_cell hb 0).trans (rfl : _ = some (Value.slice (some ⟨g, 0, none⟩) l.length 64))
  have x2 := (blk_cell hb 2).trans (rfl : _ = some (Value.int .i8 lr))
  have f2 := blk_frozen hb 2
  have H0 := Lib.hid hb
  have Hg := Lib.hid hg
  have HN := Lib.hid (And.intro hn hr)
  have HS := Lib.hid hs
  have HT := Lib.hid (And.intro hcs (And.intro htk hgb))
  have HD := Lib.hid (And.intro h1 h2)
  have hne : ¬ 64 = l.length := by omega
  have hne2 : ¬ l.length = 64 := by omega
  clear hb hg hn hn1 hr hs hcs htk hgb h1 h2
  have y0 := (blk_cell (blk_set H0.out 2 (.int .i8 0)) 0).trans (rfl : _ = some (Value.slice (some ⟨g, 0, none⟩) l.length 64))
  have g0 := blk_frozen (blk_set H0.out 2 (.int .i8 0)) 0
  have HC := Lib.hid (Tryd.Buffer_tryGrow_room b (some ⟨g, 0, none⟩) l.length 64 n (w.setCell ⟨b, 2, none⟩ (.int .i8 0)) y0 g0 (by have := HN.out; omega) (by decide) (by have := HN.out; omega))
  clear y0 g0
  go_enter Tryd.func132, Tryd.ntmps132
  go_wp2_with (go_at_call 134; refine HC.out.mono ?_; rintro e_ w1 ⟨rfl, hw1⟩; have HW1 := Lib.hid hw1; have HB1 := Lib.hid (show w1.heap[b]? = some (.cells #[.slice (some ⟨g, 0, none⟩) (l.length + n) 64, .int .i64 0, .int .i8 0] 129 (0, 0)) by rw [hw1]; exact blk_set (blk_set H0.out 2 (.int .i8 0)) 0 _); have HG1 := Lib.hid (show w1.heap[g]? = some (.cells cur 5 (0, 0)) by rw [hw1]; exact blk_far (blk_far Hg.out (fun e => HT.out.2.2 e) _) (fun e => HT.out.2.2 e) _); have z0 := (blk_cell HB1.out 0).trans (rfl : _ = some (Value.slice (some ⟨g, 0, none⟩) (l.length + n) 64)); have HS1 := Lib.hid (show At w1 a l2 from HS.out.kept (by rw [hw1]; exact (Below.heap_setCell _ _ _ _ (fun e => HD.out.1 e)).trans (Below.heap_setCell _ _ _ _ (fun e => HD.out.1 e)))); have hcp := run_copy_row (P := Tryd.prog) w1 29 29 3 5 g l.length n (64 - l.length) a n c cur 5 (Lib.byteCells l2) Tryd.underlying29 (by kernel_rfl) HG1.out (by rw [Lib.byteCells_length, HN.out.1]; exact (Nat.min_self n).symm) HS1.out.cells (by rw [Lib.byteCells_length]; have := HN.out; have := HT.out; omega) (Lib.byteCells_one _); rw [Lib.byteCells_length, HN.out.1] at hcp; have q1 : l.length + n ≤ 64 := HN.out.2; clear hw1)
  go_ret2
  have e1 : cur.toList.take l.length = Lib.byteCells l := HT.out.2.1
  have hbl : (Lib.byteCells l).length = l.length := Lib.byteCells_length _
  refine ⟨rfl, ⟨0, _, ?_, setRow_heap w1 g cur _ 5 (0, 0) HG1.out, ?_, ?_, HT.out.2.2⟩, ?_⟩
  · rw [List.length_append, HN.out.1]; exact (setRow_other _ _ _ _ (fun e => HT.out.2.2 e.symm)).trans HB1.out
  · simp only [List.size_toArray, List.length_append, List.length_take, List.length_drop, Array.length_toList, Lib.byteCells_length]
    have := HN.out; have := HT.out.1; omega
  · rw [List.toList_toArray, e1, ← List.append_assoc, ← Lib.byteCells_append, List.take_left' (by rw [Lib.byteCells_length])]
  · have hw := HW1.out
    refine ⟨by rw [hw]; rfl, by rw [hw]; rfl, by rw [hw]; rfl, by rw [hw]; simp [World.setRow], fun k hk h1 h2 => ?_⟩
    rw [setRow_other _ _ _ _ h2, hw]
    exact (Below.heap_setCell _ _ _ _ h1).trans (Below.heap_setCell _ _ _ _ h1)
end Go.Proofs.YtgdbeiadlgkedaaDoor

/- Contracts: the first write into a fresh buffer. -/
set_option linter.unusedVariables false
set_option linter.unusedSimpArgs false
namespace Go.Proofs.YtgdbeiadlgkedaaDoor
open Go.RowKit Go.Proofs.YtgdbeiadlgkedaaDoorW.PrintWords Go.Proofs.YtgdbeiadlgkedaaDoorW.PrintLast Go.Proofs.YtgdbeiadlgkedaaDoorW.PrintMore
def mk64 : Obj := .cells (madeCells #[.int .u8 0] (64 * 1)) 5
theorem mk64_run (n : Nat) (hn : n ≤ 64) : ∀ W : World, (Instr.makeSlice 29 (.int .i64 (n : Int)) (.int .i64 64)).run Tryd.prog W = .ok (.slice (some ⟨W.heap.size, 0, none⟩) n 64) (W.alloc mk64) := by
  intro W
  have hm : (Tryd.prog.info? 5).map (fun i => (i.zero, i.size, i.bytes)) = some (some (.int .u8 0), 1, 1) := by kernel_rfl
  obtain ⟨i, hi, he⟩ := Option.map_eq_some_iff.1 hm
  simp only [Prod.mk.injEq] at he
  obtain ⟨hz, hs, hb⟩ := he
  have h := run_makeSlice (P := Tryd.prog) W 29 5 i _ Tryd.underlying29 hi hz .i64 .i64 (n : Int) (64 : Int) (by omega) (by omega) (by rw [hs]; simp) (by rw [hb]; simp) (by omega)
  rw [hs, show (Value.int .u8 0).cells = #[.int .u8 0] from rfl] at h
  simpa [mk64] using h
theorem mk64_size : (madeCells #[Value.int .u8 0] (64 * 1)).size = 64 := by rw [size_madeCells]
set_option maxHeartbeats 3200000 in
set_option maxRecDepth 100000 in
theorem grow_nil (b n : Nat) (lr : Int) (w : World) (hb : w.heap[b]? = some (.cells #[.slice none 0 0, .int .i64 0, .int .i8 lr] 129 (0, 0))) (hn1 : 1 ≤ n) (hn : n ≤ 64) :
    Calls Tryd.prog 135 #[.pointer (some ⟨b, 0, none⟩), .int .i64 n] w fun e w' => e = .returned (.int .i64 0) ∧ ∃ g cur, w.heap.size ≤ g ∧ w'.heap[b]? = some (.cells #[.slice (some ⟨g, 0, none⟩) n 64, .int .i64 0, .int .i8 lr] 129 (0, 0)) ∧ w'.heap[g]? = some (.cells cur 5 (0, 0)) ∧ cur.size = 64 ∧ Kp b g w w' := by
  have hmk := mk64_run n hn
  have hnil : ∀ W, (binOp .eql 29 (.slice none 0 0) (.slice none 0 0)).run Tryd.prog W = .ok (.bool true) W := fun W => Lib.run_eql_slice_nil_nil W _ _ Tryd.underlying29
  have HL := Lib.hid (show Calls Tryd.prog 136 #[.pointer (some ⟨b, 0, none⟩)] w fun e w' => e = .returned (.int .i64 0) ∧ ∃ k, w' = w.drewN k from Tryd.Buffer_Len b b [] w ⟨Nat.le_refl _, .slice none 0 0, lr, hb, World.ownsRow_nil _ _ _ _, by simp [Value.ownBlock]⟩)
  have H0 := Lib.hid hb
  have q1 : (n : Int) ≤ 64 := by omega
  have HN := Lib.hid (And.intro hn1 hn)
  clear hb hn hn1
  go_enter Tryd.func135, Tryd.ntmps135
  go_wp2_with (first
    | (go_at_call 136; refine HL.out.mono ?_; rintro e_ w1 ⟨rfl, k, hw1⟩; have HB1 := Lib.hid (show w1.heap[b]? = some (.cells #[.slice none 0 0, .int .i64 0, .int .i8 lr] 129 (0, 0)) by rw [hw1]; exact H0.out); have x0 := (blk_cell HB1.out 0).trans (rfl : _ = some (Value.slice none 0 0)); have x1 := (blk_cell HB1.out 1).trans (rfl : _ = some (Value.int .i64 0)); have f0 := blk_frozen HB1.out 0; have y0 := (blk_cell (blk_alloc HB1.out mk64) 0).trans (rfl : _ = some (Value.slice none 0 0)); have g0 := blk_frozen (blk_alloc HB1.out mk64) 0; have HW1 := Lib.hid hw1; clear hw1)
    | (go_at_call 134; refine (Tryd.Buffer_tryGrow_none b none 0 0 n _ x0 (by omega) (by decide) (by have := HN.out; omega)).mono ?_; rintro e_ w2 ⟨rfl, rfl⟩))
  go_ret
  have HB1' := (show (w2.alloc mk64).heap[b]? = some (.cells #[.slice none 0 0, .int .i64 0, .int .i8 lr] 129 (0, 0)) from blk_alloc HB1.out mk64)
  have hs1 : w2.heap.size = w.heap.size := by rw [HW1.out]; rfl
  have hlt := blk_lt H0.out
  refine ⟨rfl, w2.heap.size, _, by omega, blk_set HB1' 0 _, (blk_far (heap_alloc_new w2 mk64) (by show w2.heap.size ≠ b; omega) _), mk64_size, ?_⟩
  refine ⟨by rw [HW1.out]; rfl, by rw [HW1.out]; rfl, by rw [HW1.out]; rfl, by rw [World.size_setCell, World.size_alloc]; omega, fun k hk h1 h2 => ?_⟩
  rw [Below.heap_setCell _ _ _ _ h1, (below_alloc (Below.refl w2.heap.size w2) mk64).block k (by omega), HW1.out]
  rfl
end Go.Proofs.YtgdbeiadlgkedaaDoor

/- Contracts: the first write into a fresh buffer. -/
set_option linter.unusedVariables false
set_option linter.unusedSimpArgs false
namespace Go.Proofs.YtgdbeiadlgkedaaDoor
open Go.RowKit Go.Proofs.YtgdbeiadlgkedaaDoorW.PrintWords Go.Proofs.YtgdbeiadlgkedaaDoorW.PrintLast Go.Proofs.YtgdbeiadlgkedaaDoorW.PrintMore
theorem Kp.set {b g : Nat} {w w1 : World} (h : Kp b g w w1) (j : Nat) (u : Value) : Kp b g w (w1.setCell ⟨b, j, none⟩ u) :=
  ⟨h.1, h.2.1, h.2.2.1, by rw [World.size_setCell]; exact h.2.2.2.1, fun k hk h1 h2 => (Below.heap_setCell _ _ _ _ h1).trans (h.2.2.2.2 k hk h1 h2)⟩
theorem Kp.refl (b g : Nat) (w : World) : Kp b g w w := ⟨rfl, rfl, rfl, Nat.le_refl _, fun _ _ _ _ => rfl⟩
theorem Kp.row {b g : Nat} {w w1 : World} (h : Kp b g w w1) (cs : Array Value) : Kp b g w (w1.setRow g cs) :=
  ⟨h.1, h.2.1, h.2.2.1, by simp [World.setRow]; exact h.2.2.2.1, fun k hk h1 h2 => (setRow_other _ _ _ _ h2).trans (h.2.2.2.2 k hk h1 h2)⟩
set_option maxHeartbeats 3200000 in
set_option maxRecDepth 100000 in
theorem write_first (b : Nat) (l2 : List UInt8) (a : Addr) (n c : Nat) (lr : Int) (w : World) (hb : w.heap[b]? = some (.cells #[.slice none 0 0, .int .i64 0, .int .i8 lr] 129 (0, 0))) (hn : l2.length = n) (hn1 : 1 ≤ n) (hr : n ≤ 64) (h1 : a.block ≠ b) (hlt : a.block < w.heap.size) (hs : At w a l2) :
    Calls Tryd.prog 132 #[.pointer (some ⟨b, 0, none⟩), .slice (some a) n c] w fun e w' => e = .returned (.tuple #[.int .i64 n, .nilIface]) ∧ ∃ g, w.heap.size ≤ g ∧ BR b g l2 w' ∧ Kp b g w w' := by
  have x0 := (blk_cell hb 0).trans (rfl : _ = some (Value.slice none 0 0))
  have x2 := (blk_cell hb 2).trans (rfl : _ = some (Value.int .i8 lr))
  have f2 := blk_frozen hb 2
  have HB0 := Lib.hid (blk_set hb 2 (.int .i8 0))
  have HN := Lib.hid (And.intro hn (And.intro hn1 hr))
  have HS := Lib.hid hs
  have HD := Lib.hid (And.intro h1 (And.intro hlt (blk_lt hb)))
  have HG := Lib.hid (grow_nil b n 0 (w.setCell ⟨b, 2, none⟩ (.int .i8 0)) (blk_set hb 2 (.int .i8 0)) hn1 hr)
  have HT := Lib.hid (Tryd.Buffer_tryGrow_none b none 0 0 n (w.setCell ⟨b, 2, none⟩ (.int .i8 0)) ((blk_cell (blk_set hb 2 (.int .i8 0)) 0).trans rfl) (Nat.le_refl _) (by decide) (by omega))
  clear hb hn hn1 hr hs h1 hlt
  go_enter Tryd.func132, Tryd.ntmps132
  go_wp2_with (first
    | (go_at_call 134; refine HT.out.mono ?_; rintro e_ w1 ⟨rfl, rfl⟩)
    | (go_at_call 135; refine HG.out.mono ?_; rintro e_ w2 ⟨rfl, g, cur, hge, hb2, hg2, hcs, hkp⟩; have hge' : w.heap.size ≤ g := by rw [World.size_setCell] at hge; exact hge
       have HK := Lib.hid (And.intro hge' (And.intro hb2 (And.intro hg2 (And.intro hcs hkp)))); have z0 := (blk_cell hb2 0).trans (rfl : _ = some (Value.slice (some ⟨g, 0, none⟩) n 64)); have HS1 := Lib.hid (show At w2 a l2 from HS.out.kept ((hkp.2.2.2.2 a.block (by rw [World.size_setCell]; exact HD.out.2.1) HD.out.1 (by have := HD.out.2.1; omega)).trans (Below.heap_setCell _ _ _ _ HD.out.1))); have hcp := run_copy_row (P := Tryd.prog) w2 29 29 3 5 g 0 n 64 a n c cur 5 (Lib.byteCells l2) Tryd.underlying29 (by kernel_rfl) hg2 (by rw [Lib.byteCells_length, HN.out.1]; exact (Nat.min_self n).symm) HS1.out.cells (by rw [Lib.byteCells_length]; have := HN.out; omega) (Lib.byteCells_one _); rw [Lib.byteCells_length, HN.out.1] at hcp; have q1 : n ≤ 64 := HN.out.2.2; clear hge hge' hb2 hg2 hcs hkp))
  go_ret2
  obtain ⟨hge, hb2, hg2, hcs, hkp⟩ := HK.out
  have hgb : g ≠ b := by have := HD.out.2.2; omega
  refine ⟨rfl, g, hge, ⟨0, _, ?_, setRow_heap w2 g cur _ 5 (0, 0) hg2, ?_, ?_, hgb⟩, ?_⟩
  · rw [HN.out.1]; exact (setRow_other _ _ _ _ (fun e => hgb e.symm)).trans hb2
  · simp only [List.size_toArray, List.length_append, List.length_take, List.length_drop, Array.length_toList, Lib.byteCells_length]
    have := HN.out; omega
  · simp [Lib.byteCells_length]
  · have h0 : Kp b g w (w.setCell ⟨b, 2, none⟩ (.int .i8 0)) := (Kp.refl b g w).set 2 _
    exact Kp.row (h0.trans hkp) _
end Go.Proofs.YtgdbeiadlgkedaaDoor

/- Contracts: numbers and bytes written into a buffer of room 64; the closure of a row's nil fields. -/
set_option linter.unusedVariables false
set_option linter.unusedSimpArgs false
namespace Go.Proofs.YtgdbeiadlgkedaaDoor
open Go.RowKit Go.Proofs.YtgdbeiadlgkedaaDoorW.PrintWords Go.Proofs.YtgdbeiadlgkedaaDoorW.PrintLast Go.Proofs.YtgdbeiadlgkedaaDoorW.PrintMore
theorem Kp.below {b g : Nat} {w w1 : World} (h : Below w.heap.size w w1) : Kp b g w w1 := ⟨h.os, h.tape, h.output, h.size, fun k hk _ _ => h.block k hk⟩
theorem BR.below {b g : Nat} {l : List UInt8} {w w1 : World} (h : BR b g l w) (hb : Below w.heap.size w w1) : BR b g l w1 := by
  obtain ⟨lr, cur, h1, h2, h3, h4, h5⟩ := h
  exact ⟨lr, cur, blk_below h1 hb, blk_below h2 hb, h3, h4, h5⟩
theorem wrU_room (b g : Nat) (l l2 : List UInt8) (a : Addr) (n c : Nat) (w : World) (h : BR b g l w) (hn : l2.length = n) (hn1 : l.length < 64) (hr : l.length + n ≤ 64) (h1 : a.block ≠ b) (h2 : a.block ≠ g) (hs : At w a l2) :
    Calls Tryd.prog 102 #[bfI b, .slice (some a) n c] w fun e w' => e = .returned (.tuple #[.int .i64 n, .nilIface]) ∧ BR b g (l ++ l2) w' ∧ Kp b g w w' := by
  have HC := Lib.hid (write_room b g l l2 a n c w h hn hn1 hr h1 h2 hs)
  clear h hn hn1 hr h1 h2 hs
  go_enter Tryd.func102, Tryd.ntmps102
  go_wp2_with (go_at_call 132; refine HC.out.mono ?_; rintro e_ w1 ⟨rfl, h1⟩; have H1 := Lib.hid h1; clear h1)
  go_ret2
  exact ⟨rfl, H1.out⟩
theorem wrU_first (b : Nat) (l2 : List UInt8) (a : Addr) (n c : Nat) (lr : Int) (w : World) (hb : w.heap[b]? = some (.cells #[.slice none 0 0, .int .i64 0, .int .i8 lr] 129 (0, 0))) (hn : l2.length = n) (hn1 : 1 ≤ n) (hr : n ≤ 64) (h1 : a.block ≠ b) (hlt : a.block < w.heap.size) (hs : At w a l2) :
    Calls Tryd.prog 102 #[bfI b, .slice (some a) n c] w fun e w' => e = .returned (.tuple #[.int .i64 n, .nilIface]) ∧ ∃ g, w.heap.size ≤ g ∧ BR b g l2 w' ∧ Kp b g w w' := by
  have HC := Lib.hid (write_first b l2 a n c lr w hb hn hn1 hr h1 hlt hs)
  clear hb hn hn1 hr h1 hlt hs
  go_enter Tryd.func102, Tryd.ntmps102
  go_wp2_with (go_at_call 132; refine HC.out.mono ?_; rintro e_ w1 ⟨rfl, h1⟩; have H1 := Lib.hid h1; clear h1)
  go_ret2
  exact ⟨rfl, H1.out⟩
theorem encI_first (b : Nat) (t : Int) (w : World) (hb : w.heap[b]? = some (.cells #[.slice none 0 0, .int .i64 0, .int .i8 0] 129 (0, 0))) :
    Calls Tryd.prog 82 #[.int .i64 t, bfI b] w fun e w' => e = .returned .nilIface ∧ ∃ g, w.heap.size ≤ g ∧ BR b g (Lib.uvarint (u64of t)) w' ∧ Kp b g w w' :=
  encVarI_abs b t w (fun w' => ∃ g, w.heap.size ≤ g ∧ BR b g (Lib.uvarint (u64of t)) w' ∧ Kp b g w w') (encVar_abs b (u64of t) w (u64of_lt t) _ (fun a c w1 hb1 ha hs => by
    have hl := Lib.uvarint_length64 (u64of_lt t)
    have hp := Lib.uvarint_pos (u64of t)
    have hbl := blk_lt hb
    refine (wrU_first b _ a _ c 0 w1 (blk_below hb hb1) rfl hp (by omega) (by omega) ?_ hs).mono fun e w' ⟨h1, g, h2, h3, h4⟩ => ⟨h1, g, Nat.le_trans hb1.size h2, h3, (Kp.below hb1).trans h4⟩
    have h0 := hs 0
    cases hu : Lib.uvarint (u64of t) with
    | nil => rw [hu] at hp; simp at hp
    | cons x xs =>
      have := hs 0 x (by rw [hu]; rfl)
      exact World.block_lt_of_cell? _ _ this))
theorem encI_room (b g : Nat) (l : List UInt8) (t : Int) (w : World) (h : BR b g l w) (hr : l.length + 10 ≤ 64) (hg : g < w.heap.size) (hbw : b < w.heap.size) :
    Calls Tryd.prog 82 #[.int .i64 t, bfI b] w fun e w' => e = .returned .nilIface ∧ BR b g (l ++ Lib.uvarint (u64of t)) w' ∧ Kp b g w w' :=
  encVarI_abs b t w (fun w' => BR b g (l ++ Lib.uvarint (u64of t)) w' ∧ Kp b g w w') (encVar_abs b (u64of t) w (u64of_lt t) _ (fun a c w1 hb1 ha hs => by
    have hl := Lib.uvarint_length64 (u64of_lt t)
    have hp := Lib.uvarint_pos (u64of t)
    exact (wrU_room b g l _ a _ c w1 (h.below hb1) rfl (by omega) (by omega) (by omega) (by omega) hs).mono fun e w' ⟨h1, h3, h4⟩ => ⟨h1, h3, (Kp.below hb1).trans h4⟩))
end Go.Proofs.YtgdbeiadlgkedaaDoor
