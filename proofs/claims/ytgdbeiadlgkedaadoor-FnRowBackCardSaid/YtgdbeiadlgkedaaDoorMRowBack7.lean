/- Contracts and plain laws, several texts in one. -/
import Derived.Test.YtgdbeiadlgkedaaDoorMRowBack6
/- Contracts: DecodeValue of kind 12. -/
namespace Go.Proofs.YtgdbeiadlgkedaaDoor
open Go.RowKit
set_option linter.unusedVariables false
set_option linter.unusedSimpArgs false

set_option maxHeartbeats 8000000 in
set_option maxRecDepth 100000 in
theorem decVal_12_ok (B : Nat) (pe pl : Addr) (t : ByteArray) (w : World) (ht : t.size ≤ 4294967296) (he : Env B pe pl w) (hB : B ≤ w.heap.size) (v k : Nat) (hR : vrd 0 0 t.data.toList = some (v, k)) :
    Calls Tryd.prog 20 #[.int .i64 12, .string t] w fun e w' => e = .returned (.tuple #[.agg #[(.int .i64 12), (.bool false), (.int .i64 0), (.int .u64 (v : Nat)), (.int .u64 0), (.string ⟨#[]⟩), (.int .i64 0), (.bool false), (.bool false), (.int .i64 0), (.int .i64 0)], .int .i64 (k : Nat), .string ⟨#[]⟩]) ∧ Below w.heap.size w w' := by
  have kc := conv_bytes
  have HT := Lib.hid (And.intro ht (And.intro he hB))
  have HY := Lib.hid hR
  clear ht he hB hR
  go_enter Tryd.func20, Tryd.ntmps20
  go_wp2_with (first
    | (go_at_call 45; go_loud (refine (newRd_any (w.alloc (.cells (zv 0) 26)) (w.heap.size + 1) (World.size_alloc ..) t HT.out.1).mono ?_; rintro e_ w1 ⟨r, rfl, hr1, hr2, hr3⟩; obtain ⟨hs1, hs2, hs3, hs4⟩ := dv_start (b := 0) HT.out.2.2 HT.out.2.1 hr2 hr3; have y0 : w1.cell? ⟨w.heap.size, 0, none⟩ = some (.int .i64 0) := (blk_cell hs1 0).trans rfl; have g0 : w1.frozen? ⟨w.heap.size, 0, none⟩ = false := blk_frozen hs1 0; have HS := Lib.hid (And.intro hr1 (And.intro hs1 (And.intro hs2 (And.intro hs3 hs4)))); have HR3 := Lib.hid hr3; clear hr1 hr2 hr3 hs1 hs2 hs3 hs4))
    | (go_at_call 61; go_loud (refine (decVar_ok B pe pl r (w.heap.size + 1) t.data.toList 0 v k _ ?rd ?en HS.out.2.2.2.2 HY.out).mono ?_; (case rd => exact HS.out.1.set _ _ (by have := HR3.out; show w.heap.size ≠ r; omega) (by show w.heap.size ≠ w.heap.size + 1; omega)); (case en => exact HS.out.2.2.1.below ((Below.refl _ _).setCell (by exact HT.out.2.2) _)); rintro e_ w2 ⟨rfl, hg, hrd⟩; have hb2 : w2.heap[w.heap.size]? = some (.cells (zv 12) 26 (0, 0)) := (hg.block _ (by have := blk_lt HS.out.2.1; simpa [World.setCell] using this) (by have := HR3.out; intro e; cases e; omega)).trans ((Lib.heap_setCell_same (i := 0) HS.out.2.1 (.int .i64 12)).trans rfl); have c0 : w2.cell? ⟨w.heap.size, 0, none⟩ = some (.int .i64 12) := (blk_cell hb2 0).trans rfl; have f0 : w2.frozen? ⟨w.heap.size, 0, none⟩ = false := blk_frozen hb2 0; have c1 : w2.cell? ⟨w.heap.size, 1, none⟩ = some (.bool false) := (blk_cell hb2 1).trans rfl; have f1 : w2.frozen? ⟨w.heap.size, 1, none⟩ = false := blk_frozen hb2 1; have c2 : w2.cell? ⟨w.heap.size, 2, none⟩ = some (.int .i64 0) := (blk_cell hb2 2).trans rfl; have f2 : w2.frozen? ⟨w.heap.size, 2, none⟩ = false := blk_frozen hb2 2; have c3 : w2.cell? ⟨w.heap.size, 3, none⟩ = some (.int .u64 0) := (blk_cell hb2 3).trans rfl; have f3 : w2.frozen? ⟨w.heap.size, 3, none⟩ = false := blk_frozen hb2 3; have c4 : w2.cell? ⟨w.heap.size, 4, none⟩ = some (.int .u64 0) := (blk_cell hb2 4).trans rfl; have f4 : w2.frozen? ⟨w.heap.size, 4, none⟩ = false := blk_frozen hb2 4; have c5 : w2.cell? ⟨w.heap.size, 5, none⟩ = some (.string ⟨#[]⟩) := (blk_cell hb2 5).trans rfl; have f5 : w2.frozen? ⟨w.heap.size, 5, none⟩ = false := blk_frozen hb2 5; have c6 : w2.cell? ⟨w.heap.size, 6, none⟩ = some (.int .i64 0) := (blk_cell hb2 6).trans rfl; have f6 : w2.frozen? ⟨w.heap.size, 6, none⟩ = false := blk_frozen hb2 6; have c7 : w2.cell? ⟨w.heap.size, 7, none⟩ = some (.bool false) := (blk_cell hb2 7).trans rfl; have f7 : w2.frozen? ⟨w.heap.size, 7, none⟩ = false := blk_frozen hb2 7; have c8 : w2.cell? ⟨w.heap.size, 8, none⟩ = some (.bool false) := (blk_cell hb2 8).trans rfl; have f8 : w2.frozen? ⟨w.heap.size, 8, none⟩ = false := blk_frozen hb2 8; have c9 : w2.cell? ⟨w.heap.size, 9, none⟩ = some (.int .i64 0) := (blk_cell hb2 9).trans rfl; have f9 : w2.frozen? ⟨w.heap.size, 9, none⟩ = false := blk_frozen hb2 9; have c10 : w2.cell? ⟨w.heap.size, 10, none⟩ = some (.int .i64 0) := (blk_cell hb2 10).trans rfl; have f10 : w2.frozen? ⟨w.heap.size, 10, none⟩ = false := blk_frozen hb2 10; rw [Nat.zero_add] at hrd; have HB0 := Lib.hid hb2; have HG := Lib.hid hg; have HD := Lib.hid hrd; clear hg hrd hb2)))
  obtain ⟨W, hW⟩ : ∃ W, W = w2.setCell ⟨w.heap.size, 3, none⟩ (.int .u64 (v : Nat)) := ⟨_, rfl⟩
  have HB2 := Lib.hid (show W.heap[w.heap.size]? = some (.cells #[(.int .i64 12), (.bool false), (.int .i64 0), (.int .u64 (v : Nat)), (.int .u64 0), (.string ⟨#[]⟩), (.int .i64 0), (.bool false), (.bool false), (.int .i64 0), (.int .i64 0)] 26 (0, 0)) by
    rw [hW]; exact (Lib.heap_setCell_same (i := 3) HB0.out (.int .u64 (v : Nat))).trans rfl)
  have HD2 := Lib.hid (show Rd r (w.heap.size + 1) t.data.toList k W by
    rw [hW]; exact HD.out.set ⟨w.heap.size, 3, none⟩ _ (by have := HR3.out; show w.heap.size ≠ r; omega) (by show w.heap.size ≠ w.heap.size + 1; omega))
  rw [← hW]
  have HW := Lib.hid hW
  clear hW c0 f0 c1 f1 c2 f2 c3 f3 c4 f4 c5 f5 c6 f6 c7 f7 c8 f8 c9 f9 c10 f10
  have c0 : W.cell? ⟨w.heap.size, 0, none⟩ = some (.int .i64 12) := (blk_cell HB2.out 0).trans rfl
  have f0 : W.frozen? ⟨w.heap.size, 0, none⟩ = false := blk_frozen HB2.out 0
  have c1 : W.cell? ⟨w.heap.size, 1, none⟩ = some (.bool false) := (blk_cell HB2.out 1).trans rfl
  have f1 : W.frozen? ⟨w.heap.size, 1, none⟩ = false := blk_frozen HB2.out 1
  have c2 : W.cell? ⟨w.heap.size, 2, none⟩ = some (.int .i64 0) := (blk_cell HB2.out 2).trans rfl
  have f2 : W.frozen? ⟨w.heap.size, 2, none⟩ = false := blk_frozen HB2.out 2
  have c3 : W.cell? ⟨w.heap.size, 3, none⟩ = some (.int .u64 (v : Nat)) := (blk_cell HB2.out 3).trans rfl
  have f3 : W.frozen? ⟨w.heap.size, 3, none⟩ = false := blk_frozen HB2.out 3
  have c4 : W.cell? ⟨w.heap.size, 4, none⟩ = some (.int .u64 0) := (blk_cell HB2.out 4).trans rfl
  have f4 : W.frozen? ⟨w.heap.size, 4, none⟩ = false := blk_frozen HB2.out 4
  have c5 : W.cell? ⟨w.heap.size, 5, none⟩ = some (.string ⟨#[]⟩) := (blk_cell HB2.out 5).trans rfl
  have f5 : W.frozen? ⟨w.heap.size, 5, none⟩ = false := blk_frozen HB2.out 5
  have c6 : W.cell? ⟨w.heap.size, 6, none⟩ = some (.int .i64 0) := (blk_cell HB2.out 6).trans rfl
  have f6 : W.frozen? ⟨w.heap.size, 6, none⟩ = false := blk_frozen HB2.out 6
  have c7 : W.cell? ⟨w.heap.size, 7, none⟩ = some (.bool false) := (blk_cell HB2.out 7).trans rfl
  have f7 : W.frozen? ⟨w.heap.size, 7, none⟩ = false := blk_frozen HB2.out 7
  have c8 : W.cell? ⟨w.heap.size, 8, none⟩ = some (.bool false) := (blk_cell HB2.out 8).trans rfl
  have f8 : W.frozen? ⟨w.heap.size, 8, none⟩ = false := blk_frozen HB2.out 8
  have c9 : W.cell? ⟨w.heap.size, 9, none⟩ = some (.int .i64 0) := (blk_cell HB2.out 9).trans rfl
  have f9 : W.frozen? ⟨w.heap.size, 9, none⟩ = false := blk_frozen HB2.out 9
  have c10 : W.cell? ⟨w.heap.size, 10, none⟩ = some (.int .i64 0) := (blk_cell HB2.out 10).trans rfl
  have f10 : W.frozen? ⟨w.heap.size, 10, none⟩ = false := blk_frozen HB2.out 10
  have qs : (t.size : Int) - ((t.data.toList.length - k : Nat) : Int) = (k : Nat) := by
    have h1 := HD2.out.le
    have h2 : t.data.toList.length = t.size := by rw [Array.length_toList]; rfl
    omega
  have qs2 : IntKind.i64.wrap ((k : Nat) : Int) = (k : Nat) := IntWalk.i64_in _ (by have := HD2.out.le; have := HD2.out.len; omega)
  obtain ⟨L, hL⟩ : ∃ L, Hid (t.data.toList.length - k = L) := ⟨_, Lib.hid rfl⟩
  rw [hL.out] at qs
  go_region_with (first | (go_at_call 62; refine (len_any r (w.heap.size + 1) t.data.toList k _ ?rd).mono ?_; (case rd => exact HD2.out.drewN 1); rw [hL.out]; rintro e_ w4 ⟨rfl, q4, rfl⟩) | (go_at_call 63; refine (word_nil _).mono ?_; rintro e_ w5 ⟨rfl, rfl⟩))
  all_goals
    refine (by assumption : ∀ (a : Act) (w : World), Code.wp _ Code.ret _ a w → _) _ _ ?_
    go_wp2
    obtain ⟨X, hX⟩ : ∃ X, X = (W.drewN (1 + q4)).setCells w.heap.size 0 [(.int .i64 12), (.bool false), (.int .i64 0), (.int .u64 (v : Nat)), (.int .u64 0), (.string ⟨#[]⟩), (.int .i64 0), (.bool false), (.bool false), (.int .i64 0), (.int .i64 0)] := ⟨_, rfl⟩
    have hXb : X.heap[w.heap.size]? = some (.cells #[(.int .i64 12), (.bool false), (.int .i64 0), (.int .u64 (v : Nat)), (.int .u64 0), (.string ⟨#[]⟩), (.int .i64 0), (.bool false), (.bool false), (.int .i64 0), (.int .i64 0)] 26 (0, 0)) := by
      rw [hX]; exact setCells_self _ _ _ _ _ 0 (W.drewN (1 + q4)) HB2.out (fun j v hj => by rw [Nat.zero_add]; simpa using hj)
    have hXw : Below w.heap.size w X := by
      rw [hX]
      exact (dv_below HS.out.2.2.2.1 HG.out HW.out (by have := HR3.out; omega)).trans (Lib.below_setCells_w (Nat.le_refl _) _ _ _)
    simp only [World.setCells] at hX
    rw [← hX]
    have HX := Lib.hid hXw
    clear hX hXw c0 f0 c1 f1 c2 f2 c3 f3 c4 f4 c5 f5 c6 f6 c7 f7 c8 f8 c9 f9 c10 f10
    have c0 : X.cell? ⟨w.heap.size, 0, none⟩ = some (.int .i64 12) := (blk_cell hXb 0).trans rfl
    have c1 : X.cell? ⟨w.heap.size, 1, none⟩ = some (.bool false) := (blk_cell hXb 1).trans rfl
    have c2 : X.cell? ⟨w.heap.size, 2, none⟩ = some (.int .i64 0) := (blk_cell hXb 2).trans rfl
    have c3 : X.cell? ⟨w.heap.size, 3, none⟩ = some (.int .u64 (v : Nat)) := (blk_cell hXb 3).trans rfl
    have c4 : X.cell? ⟨w.heap.size, 4, none⟩ = some (.int .u64 0) := (blk_cell hXb 4).trans rfl
    have c5 : X.cell? ⟨w.heap.size, 5, none⟩ = some (.string ⟨#[]⟩) := (blk_cell hXb 5).trans rfl
    have c6 : X.cell? ⟨w.heap.size, 6, none⟩ = some (.int .i64 0) := (blk_cell hXb 6).trans rfl
    have c7 : X.cell? ⟨w.heap.size, 7, none⟩ = some (.bool false) := (blk_cell hXb 7).trans rfl
    have c8 : X.cell? ⟨w.heap.size, 8, none⟩ = some (.bool false) := (blk_cell hXb 8).trans rfl
    have c9 : X.cell? ⟨w.heap.size, 9, none⟩ = some (.int .i64 0) := (blk_cell hXb 9).trans rfl
    have c10 : X.cell? ⟨w.heap.size, 10, none⟩ = some (.int .i64 0) := (blk_cell hXb 10).trans rfl
    clear hXb
    refine bodyPost_ret (v := .tuple #[.agg #[(.int .i64 12), (.bool false), (.int .i64 0), (.int .u64 (v : Nat)), (.int .u64 0), (.string ⟨#[]⟩), (.int .i64 0), (.bool false), (.bool false), (.int .i64 0), (.int .i64 0)], .int .i64 (k : Nat), .string ⟨#[]⟩]) (by simp [results, Tryd.results20, go_sem, c0, c1, c2, c3, c4, c5, c6, c7, c8, c9, c10]; try rfl) rfl ⟨rfl, HX.out⟩
set_option maxHeartbeats 8000000 in
set_option maxRecDepth 100000 in
theorem decVal_12_bad (B : Nat) (pe pl : Addr) (t : ByteArray) (w : World) (ht : t.size ≤ 4294967296) (he : Env B pe pl w) (hB : B ≤ w.heap.size) (hR : vrd 0 0 t.data.toList = none) :
    Calls Tryd.prog 20 #[.int .i64 12, .string t] w fun e w' => ∃ (n : Nat) (s : ByteArray), e = .returned (.tuple #[.agg #[(.int .i64 12), (.bool false), (.int .i64 0), (.int .u64 0), (.int .u64 0), (.string ⟨#[]⟩), (.int .i64 0), (.bool false), (.bool false), (.int .i64 0), (.int .i64 0)], .int .i64 n, .string s]) ∧ n ≤ t.size ∧ s.data.toList ≠ [] ∧ Below w.heap.size w w' := by
  have kc := conv_bytes
  have HT := Lib.hid (And.intro ht (And.intro he hB))
  have HY := Lib.hid hR
  clear ht he hB hR
  go_enter Tryd.func20, Tryd.ntmps20
  go_wp2_with (first
    | (go_at_call 45; go_loud (refine (newRd_any (w.alloc (.cells (zv 0) 26)) (w.heap.size + 1) (World.size_alloc ..) t HT.out.1).mono ?_; rintro e_ w1 ⟨r, rfl, hr1, hr2, hr3⟩; obtain ⟨hs1, hs2, hs3, hs4⟩ := dv_start (b := 0) HT.out.2.2 HT.out.2.1 hr2 hr3; have y0 : w1.cell? ⟨w.heap.size, 0, none⟩ = some (.int .i64 0) := (blk_cell hs1 0).trans rfl; have g0 : w1.frozen? ⟨w.heap.size, 0, none⟩ = false := blk_frozen hs1 0; have HS := Lib.hid (And.intro hr1 (And.intro hs1 (And.intro hs2 (And.intro hs3 hs4)))); have HR3 := Lib.hid hr3; clear hr1 hr2 hr3 hs1 hs2 hs3 hs4))
    | (go_at_call 61; go_loud (refine (decVar_bad B pe pl r (w.heap.size + 1) t.data.toList 0 _ ?rd ?en HS.out.2.2.2.2 HY.out).mono ?_; (case rd => exact HS.out.1.set _ _ (by have := HR3.out; show w.heap.size ≠ r; omega) (by show w.heap.size ≠ w.heap.size + 1; omega)); (case en => exact HS.out.2.2.1.below ((Below.refl _ _).setCell (by exact HT.out.2.2) _)); rintro e_ w2 ⟨ev, rfl, hg, hev, i', hrd⟩; obtain ⟨ea, es, rfl, hea, hes⟩ := hev; have HEA := Lib.hid (And.intro hea hes); have hb2 : w2.heap[w.heap.size]? = some (.cells (zv 12) 26 (0, 0)) := (hg.block _ (by have := blk_lt HS.out.2.1; simpa [World.setCell] using this) (by have := HR3.out; intro e; cases e; omega)).trans ((Lib.heap_setCell_same (i := 0) HS.out.2.1 (.int .i64 12)).trans rfl); have c0 : w2.cell? ⟨w.heap.size, 0, none⟩ = some (.int .i64 12) := (blk_cell hb2 0).trans rfl; have f0 : w2.frozen? ⟨w.heap.size, 0, none⟩ = false := blk_frozen hb2 0; have c1 : w2.cell? ⟨w.heap.size, 1, none⟩ = some (.bool false) := (blk_cell hb2 1).trans rfl; have f1 : w2.frozen? ⟨w.heap.size, 1, none⟩ = false := blk_frozen hb2 1; have c2 : w2.cell? ⟨w.heap.size, 2, none⟩ = some (.int .i64 0) := (blk_cell hb2 2).trans rfl; have f2 : w2.frozen? ⟨w.heap.size, 2, none⟩ = false := blk_frozen hb2 2; have c3 : w2.cell? ⟨w.heap.size, 3, none⟩ = some (.int .u64 0) := (blk_cell hb2 3).trans rfl; have f3 : w2.frozen? ⟨w.heap.size, 3, none⟩ = false := blk_frozen hb2 3; have c4 : w2.cell? ⟨w.heap.size, 4, none⟩ = some (.int .u64 0) := (blk_cell hb2 4).trans rfl; have f4 : w2.frozen? ⟨w.heap.size, 4, none⟩ = false := blk_frozen hb2 4; have c5 : w2.cell? ⟨w.heap.size, 5, none⟩ = some (.string ⟨#[]⟩) := (blk_cell hb2 5).trans rfl; have f5 : w2.frozen? ⟨w.heap.size, 5, none⟩ = false := blk_frozen hb2 5; have c6 : w2.cell? ⟨w.heap.size, 6, none⟩ = some (.int .i64 0) := (blk_cell hb2 6).trans rfl; have f6 : w2.frozen? ⟨w.heap.size, 6, none⟩ = false := blk_frozen hb2 6; have c7 : w2.cell? ⟨w.heap.size, 7, none⟩ = some (.bool false) := (blk_cell hb2 7).trans rfl; have f7 : w2.frozen? ⟨w.heap.size, 7, none⟩ = false := blk_frozen hb2 7; have c8 : w2.cell? ⟨w.heap.size, 8, none⟩ = some (.bool false) := (blk_cell hb2 8).trans rfl; have f8 : w2.frozen? ⟨w.heap.size, 8, none⟩ = false := blk_frozen hb2 8; have c9 : w2.cell? ⟨w.heap.size, 9, none⟩ = some (.int .i64 0) := (blk_cell hb2 9).trans rfl; have f9 : w2.frozen? ⟨w.heap.size, 9, none⟩ = false := blk_frozen hb2 9; have c10 : w2.cell? ⟨w.heap.size, 10, none⟩ = some (.int .i64 0) := (blk_cell hb2 10).trans rfl; have f10 : w2.frozen? ⟨w.heap.size, 10, none⟩ = false := blk_frozen hb2 10; have HB0 := Lib.hid hb2; have HG := Lib.hid hg; have HD := Lib.hid hrd; clear hea hes hg hrd hb2)))
  obtain ⟨W, hW⟩ : ∃ W, W = w2.setCell ⟨w.heap.size, 3, none⟩ (.int .u64 0) := ⟨_, rfl⟩
  have HB2 := Lib.hid (show W.heap[w.heap.size]? = some (.cells #[(.int .i64 12), (.bool false), (.int .i64 0), (.int .u64 0), (.int .u64 0), (.string ⟨#[]⟩), (.int .i64 0), (.bool false), (.bool false), (.int .i64 0), (.int .i64 0)] 26 (0, 0)) by
    rw [hW]; exact (Lib.heap_setCell_same (i := 3) HB0.out (.int .u64 0)).trans rfl)
  have HD2 := Lib.hid (show Rd r (w.heap.size + 1) t.data.toList i' W by
    rw [hW]; exact HD.out.set ⟨w.heap.size, 3, none⟩ _ (by have := HR3.out; show w.heap.size ≠ r; omega) (by show w.heap.size ≠ w.heap.size + 1; omega))
  have HEW := Lib.hid (show W.cell? ea = some (.string es) by
    rw [hW]; exact (World.cell?_of_block (a := ea) (same_set HB0.out (i := 3) (by rfl) _)).trans HEA.out.1)
  rw [← hW]
  have HW := Lib.hid hW
  clear hW c0 f0 c1 f1 c2 f2 c3 f3 c4 f4 c5 f5 c6 f6 c7 f7 c8 f8 c9 f9 c10 f10
  have c0 : W.cell? ⟨w.heap.size, 0, none⟩ = some (.int .i64 12) := (blk_cell HB2.out 0).trans rfl
  have f0 : W.frozen? ⟨w.heap.size, 0, none⟩ = false := blk_frozen HB2.out 0
  have c1 : W.cell? ⟨w.heap.size, 1, none⟩ = some (.bool false) := (blk_cell HB2.out 1).trans rfl
  have f1 : W.frozen? ⟨w.heap.size, 1, none⟩ = false := blk_frozen HB2.out 1
  have c2 : W.cell? ⟨w.heap.size, 2, none⟩ = some (.int .i64 0) := (blk_cell HB2.out 2).trans rfl
  have f2 : W.frozen? ⟨w.heap.size, 2, none⟩ = false := blk_frozen HB2.out 2
  have c3 : W.cell? ⟨w.heap.size, 3, none⟩ = some (.int .u64 0) := (blk_cell HB2.out 3).trans rfl
  have f3 : W.frozen? ⟨w.heap.size, 3, none⟩ = false := blk_frozen HB2.out 3
  have c4 : W.cell? ⟨w.heap.size, 4, none⟩ = some (.int .u64 0) := (blk_cell HB2.out 4).trans rfl
  have f4 : W.frozen? ⟨w.heap.size, 4, none⟩ = false := blk_frozen HB2.out 4
  have c5 : W.cell? ⟨w.heap.size, 5, none⟩ = some (.string ⟨#[]⟩) := (blk_cell HB2.out 5).trans rfl
  have f5 : W.frozen? ⟨w.heap.size, 5, none⟩ = false := blk_frozen HB2.out 5
  have c6 : W.cell? ⟨w.heap.size, 6, none⟩ = some (.int .i64 0) := (blk_cell HB2.out 6).trans rfl
  have f6 : W.frozen? ⟨w.heap.size, 6, none⟩ = false := blk_frozen HB2.out 6
  have c7 : W.cell? ⟨w.heap.size, 7, none⟩ = some (.bool false) := (blk_cell HB2.out 7).trans rfl
  have f7 : W.frozen? ⟨w.heap.size, 7, none⟩ = false := blk_frozen HB2.out 7
  have c8 : W.cell? ⟨w.heap.size, 8, none⟩ = some (.bool false) := (blk_cell HB2.out 8).trans rfl
  have f8 : W.frozen? ⟨w.heap.size, 8, none⟩ = false := blk_frozen HB2.out 8
  have c9 : W.cell? ⟨w.heap.size, 9, none⟩ = some (.int .i64 0) := (blk_cell HB2.out 9).trans rfl
  have f9 : W.frozen? ⟨w.heap.size, 9, none⟩ = false := blk_frozen HB2.out 9
  have c10 : W.cell? ⟨w.heap.size, 10, none⟩ = some (.int .i64 0) := (blk_cell HB2.out 10).trans rfl
  have f10 : W.frozen? ⟨w.heap.size, 10, none⟩ = false := blk_frozen HB2.out 10
  have qs : (t.size : Int) - ((t.data.toList.length - i' : Nat) : Int) = (i' : Nat) := by
    have h1 := HD2.out.le
    have h2 : t.data.toList.length = t.size := by rw [Array.length_toList]; rfl
    omega
  have qs2 : IntKind.i64.wrap ((i' : Nat) : Int) = (i' : Nat) := IntWalk.i64_in _ (by have := HD2.out.le; have := HD2.out.len; omega)
  obtain ⟨L, hL⟩ : ∃ L, Hid (t.data.toList.length - i' = L) := ⟨_, Lib.hid rfl⟩
  rw [hL.out] at qs
  go_region_with (first | (go_at_call 62; refine (len_any r (w.heap.size + 1) t.data.toList i' _ ?rd).mono ?_; (case rd => exact HD2.out.drewN 1); rw [hL.out]; rintro e_ w4 ⟨rfl, q4, rfl⟩) | (go_at_call 63; refine (word_err ea es _ ?wd).mono ?_; (case wd => exact HEW.out); rintro e_ w5 ⟨rfl, rfl⟩))
  all_goals
    refine (by assumption : ∀ (a : Act) (w : World), Code.wp _ Code.ret _ a w → _) _ _ ?_
    go_wp2
    obtain ⟨X, hX⟩ : ∃ X, X = (W.drewN (1 + q4)).setCells w.heap.size 0 [(.int .i64 12), (.bool false), (.int .i64 0), (.int .u64 0), (.int .u64 0), (.string ⟨#[]⟩), (.int .i64 0), (.bool false), (.bool false), (.int .i64 0), (.int .i64 0)] := ⟨_, rfl⟩
    have hXb : X.heap[w.heap.size]? = some (.cells #[(.int .i64 12), (.bool false), (.int .i64 0), (.int .u64 0), (.int .u64 0), (.string ⟨#[]⟩), (.int .i64 0), (.bool false), (.bool false), (.int .i64 0), (.int .i64 0)] 26 (0, 0)) := by
      rw [hX]; exact setCells_self _ _ _ _ _ 0 (W.drewN (1 + q4)) HB2.out (fun j v hj => by rw [Nat.zero_add]; simpa using hj)
    have hXw : Below w.heap.size w X := by
      rw [hX]
      exact (dv_below HS.out.2.2.2.1 HG.out HW.out (by have := HR3.out; omega)).trans (Lib.below_setCells_w (Nat.le_refl _) _ _ _)
    simp only [World.setCells] at hX
    rw [← hX]
    have HX := Lib.hid hXw
    clear hX hXw c0 f0 c1 f1 c2 f2 c3 f3 c4 f4 c5 f5 c6 f6 c7 f7 c8 f8 c9 f9 c10 f10
    have c0 : X.cell? ⟨w.heap.size, 0, none⟩ = some (.int .i64 12) := (blk_cell hXb 0).trans rfl
    have c1 : X.cell? ⟨w.heap.size, 1, none⟩ = some (.bool false) := (blk_cell hXb 1).trans rfl
    have c2 : X.cell? ⟨w.heap.size, 2, none⟩ = some (.int .i64 0) := (blk_cell hXb 2).trans rfl
    have c3 : X.cell? ⟨w.heap.size, 3, none⟩ = some (.int .u64 0) := (blk_cell hXb 3).trans rfl
    have c4 : X.cell? ⟨w.heap.size, 4, none⟩ = some (.int .u64 0) := (blk_cell hXb 4).trans rfl
    have c5 : X.cell? ⟨w.heap.size, 5, none⟩ = some (.string ⟨#[]⟩) := (blk_cell hXb 5).trans rfl
    have c6 : X.cell? ⟨w.heap.size, 6, none⟩ = some (.int .i64 0) := (blk_cell hXb 6).trans rfl
    have c7 : X.cell? ⟨w.heap.size, 7, none⟩ = some (.bool false) := (blk_cell hXb 7).trans rfl
    have c8 : X.cell? ⟨w.heap.size, 8, none⟩ = some (.bool false) := (blk_cell hXb 8).trans rfl
    have c9 : X.cell? ⟨w.heap.size, 9, none⟩ = some (.int .i64 0) := (blk_cell hXb 9).trans rfl
    have c10 : X.cell? ⟨w.heap.size, 10, none⟩ = some (.int .i64 0) := (blk_cell hXb 10).trans rfl
    clear hXb
    refine bodyPost_ret (v := .tuple #[.agg #[(.int .i64 12), (.bool false), (.int .i64 0), (.int .u64 0), (.int .u64 0), (.string ⟨#[]⟩), (.int .i64 0), (.bool false), (.bool false), (.int .i64 0), (.int .i64 0)], .int .i64 (i' : Nat), .string es]) (by simp [results, Tryd.results20, go_sem, c0, c1, c2, c3, c4, c5, c6, c7, c8, c9, c10]; try rfl) rfl ⟨i', es, rfl, by have := HD2.out.le; have h2 : t.data.toList.length = t.size := (by rw [Array.length_toList]; rfl); omega, HEA.out.2, HX.out⟩
end Go.Proofs.YtgdbeiadlgkedaaDoor

/- Plain laws: numbers by sevens of bits that are longer than they must be. -/
namespace Go.Proofs.YtgdbeiadlgkedaaDoor
open Go.Lib

/-- The bytes of a number, all with the high bit. -/
def vcont (x : Nat) : List UInt8 := if h : x < 128 then [(x + 128).toUInt8] else (x % 128 + 128).toUInt8 :: vcont (x / 128)
termination_by x
decreasing_by omega
theorem vcont_small {x : Nat} (h : x < 128) : vcont x = [(x + 128).toUInt8] := by rw [vcont, dif_pos h]
theorem vcont_big {x : Nat} (h : 128 ≤ x) : vcont x = (x % 128 + 128).toUInt8 :: vcont (x / 128) := by rw [vcont, dif_neg (by omega)]
theorem vcont_len : ∀ (n x : Nat), x ≤ n → (vcont x).length = (uvarint x).length := by
  intro n
  induction n with
  | zero => intro x h; obtain rfl : x = 0 := by omega
            rw [vcont_small (by omega), uvarint_small (by omega)]; rfl
  | succ n ih =>
    intro x h
    by_cases hx : x < 128
    · rw [vcont_small hx, uvarint_small hx]; rfl
    · rw [vcont_big (by omega), uvarint_big (by omega), List.length_cons, List.length_cons, ih (x / 128) (by omega)]
/-- The last byte taken off, and with the high bit. -/
theorem vcont_split : ∀ (n x : Nat), x ≤ n → ∃ (pre : List UInt8) (c : UInt8), uvarint x = pre ++ [c] ∧ vcont x = pre ++ [(c.toNat + 128).toUInt8] ∧ c.toNat < 128 := by
  intro n
  induction n with
  | zero => intro x h; obtain rfl : x = 0 := by omega
            exact ⟨[], 0, by rw [uvarint_small (by omega)]; rfl, by rw [vcont_small (by omega)]; rfl, by decide⟩
  | succ n ih =>
    intro x h
    by_cases hx : x < 128
    · exact ⟨[], x.toUInt8, by rw [uvarint_small hx]; rfl, by rw [vcont_small hx, u8_toNat (by omega)]; rfl, by rw [u8_toNat (by omega)]; exact hx⟩
    · obtain ⟨pre, c, h1, h2, h3⟩ := ih (x / 128) (by omega)
      exact ⟨(x % 128 + 128).toUInt8 :: pre, c, by rw [uvarint_big (by omega), h1]; rfl, by rw [vcont_big (by omega), h2]; rfl, h3⟩
theorem vrd_cont : ∀ (n x i acc : Nat) (rest : List UInt8), x ≤ n → i + (uvarint x).length ≤ 9 → vrd i acc (vcont x ++ rest) = vrd (i + (uvarint x).length) (acc + x * 2 ^ (7 * i)) rest := by
  intro n
  induction n with
  | zero =>
    intro x i acc rest h hl
    obtain rfl : x = 0 := by omega
    rw [uvarint_small (by omega)] at hl ⊢
    rw [vcont_small (by omega), List.singleton_append, vrd_on (by simp at hl; omega) (by rw [u8_toNat (by omega)]; omega), u8_toNat (by omega)]
    simp
  | succ n ih =>
    intro x i acc rest h hl
    by_cases hx : x < 128
    · rw [uvarint_small hx] at hl ⊢
      have e : (x + 128) % 128 = x := by omega
      rw [vcont_small hx, List.singleton_append, vrd_on (by simp at hl; omega) (by rw [u8_toNat (by omega)]; omega), u8_toNat (by omega), e]
      rfl
    · rw [uvarint_big (by omega), List.length_cons] at hl ⊢
      have e : (x % 128 + 128) % 128 = x % 128 := by omega
      rw [vcont_big (by omega), List.cons_append, vrd_on (by omega) (by rw [u8_toNat (by omega)]; omega), u8_toNat (by omega), e, ih (x / 128) (i + 1) _ rest (by omega) (by omega), pow7]
      have e3 : x * 2 ^ (7 * i) = x % 128 * 2 ^ (7 * i) + x / 128 * (128 * 2 ^ (7 * i)) := by
        rw [← Nat.mul_assoc, ← Nat.add_mul]
        congr 1
        omega
      rw [e3]
      congr 1 <;> omega
/-- With a tenth byte that has the high bit it is refused. -/
theorem vrd_cont_bad : ∀ (n x i acc : Nat) (rest : List UInt8), x ≤ n → i ≤ 9 → 10 ≤ i + (uvarint x).length → vrd i acc (vcont x ++ rest) = none := by
  intro n
  induction n with
  | zero =>
    intro x i acc rest h hi hl
    obtain rfl : x = 0 := by omega
    rw [uvarint_small (by omega)] at hl
    rw [vcont_small (by omega), List.singleton_append]
    exact vrd_bad (.inr ⟨by simp at hl; omega, by rw [u8_toNat (by omega)]; omega⟩)
  | succ n ih =>
    intro x i acc rest h hi hl
    by_cases hx : x < 128
    · rw [uvarint_small hx] at hl
      rw [vcont_small hx, List.singleton_append]
      exact vrd_bad (.inr ⟨by simp at hl; omega, by rw [u8_toNat (by omega)]; omega⟩)
    · rw [uvarint_big (by omega), List.length_cons] at hl
      rw [vcont_big (by omega), List.cons_append]
      by_cases h9 : i = 9
      · exact vrd_bad (.inr ⟨h9, by rw [u8_toNat (by omega)]; omega⟩)
      · rw [vrd_on (by omega) (by rw [u8_toNat (by omega)]; omega)]
        exact ih (x / 128) (i + 1) _ rest (by omega) (by omega) (by omega)
theorem vrd_pad : ∀ (m j acc : Nat), j ≤ 9 → vrd j acc (List.replicate m 128 ++ [0]) = if j + m ≤ 9 then some (acc, j + m + 1) else none
  | 0, j, acc, hj => by
    rw [if_pos (by omega), List.replicate_zero, List.nil_append, vrd_end (by
      rintro (h | ⟨_, h⟩)
      · omega
      · exact absurd h (by decide)) (by decide)]
    simp
  | m + 1, j, acc, hj => by
    rw [List.replicate_succ, List.cons_append]
    by_cases h9 : j = 9
    · rw [vrd_bad (.inr ⟨h9, by decide⟩), if_neg (by omega)]
    · rw [vrd_on (by rintro (h | ⟨h, _⟩) <;> omega) (by decide), vrd_pad m (j + 1) _ (by omega)]
      have e : (128 : UInt8).toNat % 128 = 0 := by decide
      rw [e, Nat.zero_mul, show j + 1 + m = j + (m + 1) by omega]
      simp only [Nat.add_zero]
def vlong (n k : Nat) : List UInt8 := if k = 0 then uvarint n else vcont n ++ (List.replicate (k - 1) 128 ++ [0])
theorem vlong_len (n k : Nat) : (vlong n k).length = (uvarint n).length + k := by
  unfold vlong
  split
  · omega
  · rw [List.length_append, vcont_len n n (Nat.le_refl _), List.length_append, List.length_replicate]; simp; omega
theorem vlong_ok (n k : Nat) (hn : n < 18446744073709551616) (h : (uvarint n).length + k ≤ 10) : vrd 0 0 (vlong n k) = some (n, (uvarint n).length + k) := by
  unfold vlong
  split
  · rename_i hk
    have := vrd_uv (x := n) [] hn
    rw [List.append_nil] at this
    rw [this, hk]; rfl
  · rw [vrd_cont n n 0 0 _ (Nat.le_refl _) (by omega), vrd_pad _ _ _ (by omega), if_pos (by omega)]
    simp; omega
theorem vlong_bad (n k : Nat) (hn : n < 18446744073709551616) (h : ¬ (uvarint n).length + k ≤ 10) : vrd 0 0 (vlong n k) = none := by
  have hl := uvarint_length64 hn
  unfold vlong
  rw [if_neg (by omega)]
  by_cases h10 : (uvarint n).length = 10
  · exact vrd_cont_bad n n 0 0 _ (Nat.le_refl _) (by omega) (by omega)
  · rw [vrd_cont n n 0 0 _ (Nat.le_refl _) (by omega), vrd_pad _ _ _ (by omega), if_neg (by omega)]
end Go.Proofs.YtgdbeiadlgkedaaDoor

/- The walk of the statement on numbers that are longer than they must be. -/
namespace Go.Proofs.YtgdbeiadlgkedaaDoor
open Go.RowKit
set_option linter.unusedVariables false
set_option linter.unusedSimpArgs false

/-- The text at the loop's head. -/
def vst (n k i : Nat) : List UInt8 := if k = 0 then Lib.uvarint n else if i < k then vcont n ++ List.replicate i 128 else vlong n k
theorem vst_on {n k i : Nat} (h : i + 1 < k) : vst n k (i + 1) = vst n k i ++ [128] := by
  unfold vst
  rw [if_neg (show ¬ k = 0 by omega), if_neg (show ¬ k = 0 by omega), if_pos h, if_pos (show i < k by omega), List.append_assoc]
  congr 1
  rw [List.replicate_succ']
theorem vst_end {n k i : Nat} (h : i + 1 = k) : vst n k (i + 1) = vst n k i ++ [0] := by
  unfold vst vlong
  rw [if_neg (show ¬ k = 0 by omega), if_neg (show ¬ i + 1 < k by omega), if_neg (show ¬ k = 0 by omega), if_neg (show ¬ k = 0 by omega), if_pos (show i < k by omega), List.append_assoc, show k - 1 = i by omega]
theorem vst_len (n k i : Nat) (h : i ≤ k) : (vst n k i).length ≤ (Lib.uvarint n).length + k := by
  unfold vst
  split
  · omega
  · split
    · rw [List.length_append, vcont_len n n (Nat.le_refl _), List.length_replicate]; omega
    · rw [vlong_len]; omega

theorem vst_all (n k : Nat) : vst n k k = vlong n k := by
  unfold vst
  split
  · unfold vlong; rename_i h; rw [if_pos h]
  · rw [if_neg (by omega)]
theorem cut_last (s : ByteArray) (pre : List UInt8) (c : UInt8) (h : s.data.toList = pre ++ [c]) : s.extract 0 pre.length = ⟨pre.toArray⟩ := by
  apply str_ext
  rw [Lib.extract_data, h, List.drop_zero, Nat.sub_zero, List.take_left' rfl]
theorem get_last (s : ByteArray) (pre : List UInt8) (c : UInt8) (h : s.data.toList = pre ++ [c]) (hm : pre.length < s.size) : s[pre.length]'hm = c := by
  have h2 : s.data = (pre ++ [c]).toArray := by rw [← h]
  show s.data[pre.length]'hm = c
  simp [h2]
theorem conv1d (x : UInt8) (n : Nat) (hx : x.toNat = n) : ∀ W : World, (convert 29 9 (.slice (some ⟨W.heap.size, 0, none⟩) 1 1)).run Tryd.prog (W.alloc (.cells #[.int .u8 (n : Int)] 5)).drew = .ok (.string ⟨#[x]⟩) (W.alloc (.cells #[.int .u8 (n : Int)] 5)).drew := by
  intro W
  have := run_convert_bytes_back (P := Tryd.prog) (W.alloc (.cells #[.int .u8 (n : Int)] 5)).drew 29 9 5 ⟨W.heap.size, 0, none⟩ 1 [x] Tryd.underlying29 Tryd.underlying5 Tryd.underlying9 (fun j hj => by
    obtain rfl : j = 0 := by simpa using hj
    rw [Lib.addr_add]
    subst hx
    exact (blk_cell (heap_alloc_new W _) 0).trans rfl)
  exact this
theorem u8_or128_nat (c : UInt8) (h : c.toNat < 128) : bits .or .u8 (c.toNat : Int) 128 = ((c.toNat + 128 : Nat) : Int) := by
  rw [Lib.u8_or128_any _ (by omega) (by omega)]; omega
set_option maxHeartbeats 8000000 in
set_option maxRecDepth 100000 in
theorem varLong_walk (pe pl : Addr) (n k more : Nat) (w : World) (hn : n < 18446744073709551616) (hmore : more < 256) (hk : more % 13 = k) (he : Env w.heap.size pe pl w) :
    Calls Tryd.prog 11 #[.int .u64 n, .int .u8 more] w fun e w' => e = .returned (.bool true) ∧ Below w.heap.size w w' := by
  obtain ⟨pre, c, hu, hv, hc⟩ := vcont_split n n (Nat.le_refl _)
  obtain ⟨s, hs⟩ : ∃ s : ByteArray, s = ⟨(Lib.uvarint n).toArray⟩ := ⟨_, rfl⟩
  have HC := Lib.hid (show ∀ W, Calls Tryd.prog 32 #[.int .u64 n] W fun e w' => e = .returned (.string s) ∧ Below W.heap.size W w' from fun W => by rw [hs]; exact codVarint_any n W hn)
  have HE := Lib.hid he
  have HN := Lib.hid hn
  have hk13 : (k : Int) < 13 := by omega
  have HK13 := Lib.hid (show k < 13 by omega)
  have q0 : (more : Int) % 13 = (k : Int) := by omega
  have hw0 : wrap64 (more : Int) = (more : Int) := by unfold wrap64; omega
  have HSL := Lib.hid (show s.data.toList = Lib.uvarint n by rw [hs])
  obtain ⟨m, hm⟩ : ∃ m, Hid (pre.length = m) := ⟨_, Lib.hid rfl⟩
  obtain ⟨d, hd⟩ : ∃ d, Hid (c.toNat = d) := ⟨_, Lib.hid rfl⟩
  obtain ⟨g, hg⟩ : ∃ g, Hid (d + 128 = g) := ⟨_, Lib.hid rfl⟩
  have HML := Lib.hid (show m + 1 ≤ 10 by have := Lib.uvarint_length64 hn; rw [hu, List.length_append, hm.out] at this; simpa using this)
  have hsz : (s.size : Int) - 1 = (m : Int) := by
    have : s.size = m + 1 := by rw [hs, size_mk, hu, List.length_append, hm.out]; rfl
    omega
  have hm1 : wrap64 ((s.size : Int) - 1) = (m : Int) := by rw [hsz]; unfold wrap64; have := HML.out; omega
  have hm2 : IntKind.i64.wrap ((s.size : Int) - 1) = (m : Int) := by rw [hsz]; exact IntWalk.i64_in _ (by have := HML.out; omega)
  have hm3 : (m : Int) ≤ (s.size : Int) := by omega
  have hm4 : (m : Int) < (s.size : Int) := by omega
  obtain ⟨t0, ht0⟩ : ∃ t : ByteArray, t = ⟨pre.toArray⟩ := ⟨_, rfl⟩
  have hm5 : s.extract 0 m = t0 := by rw [← hm.out, ht0]; exact cut_last s pre c (by rw [HSL.out, hu])
  have hm7 : ∀ h : m < s.size, s[m]'h = c := by
    intro h
    have := hm.out
    subst this
    exact get_last s pre c (by rw [HSL.out, hu]) h
  have hor : bits .or .u8 (c.toNat : Int) 128 = (g : Int) := by rw [u8_or128_nat c hc, hd.out, hg.out]
  have hm6 : m < s.size := by omega
  obtain ⟨x, hx⟩ : ∃ x : UInt8, x = g.toUInt8 := ⟨_, rfl⟩
  have kc := conv1d x g (by rw [hx]; exact u8_toNat (by have := hd.out; have := hg.out; omega))
  have kadd := add1 t0 x (by rw [ht0]; show pre.length ≤ _; have := hm.out; have := HML.out; omega)
  have HV0 := Lib.hid (show 0 < k → (t0 ++ ⟨#[x]⟩ : ByteArray).data.toList = vst n k 0 by
    intro h0; rw [data_append, ht0]; unfold vst; rw [if_neg (by omega), if_pos h0, hv, hx, hd.out, hg.out]; simp)
  have HV1 := Lib.hid (show k = 0 → s.data.toList = vst n k 0 by
    intro h0; rw [HSL.out]; unfold vst; rw [if_pos h0])
  clear hsz
  by_cases hk0 : k = 0
  · have hkp : ¬ 0 < (k : Int) := by omega
    have HK := Lib.hid hk
    have HK0 := Lib.hid hk0
    clear hk hk0 hn he hmore hs hu hv hc hm1 hm2 hm3 hm4 hm5 hm6 hm7 hor kc kadd hx ht0
    go_enter Tryd.func11, Tryd.ntmps11
    go_wp2_with (go_at_call 32; go_loud (refine (HC.out w).mono ?_; rintro e_ w1 ⟨rfl, hb1⟩; have HB1 := Lib.hid hb1; clear hb1))
    go_loopg [5, 33] k (fun kq v5 v33 wr => ∃ (i : Nat) (t : ByteArray), v5 = .string t ∧ v33 = .int .i64 i ∧ Hid (i + kq = k) ∧ Hid (t.data.toList = vst n k i) ∧ Hid (Below w.heap.size w wr))
    case atStart => exact ⟨0, s, rfl, rfl, Lib.hid (by omega), Lib.hid (HV1.out HK0.out), HB1⟩
    case round =>
      obtain ⟨i, t, rfl, rfl, HI, HT, HB⟩ := hrel
      have hz0 : wrap64 ((k : Int) - 1) = (k : Int) - 1 := by unfold wrap64; have := HK13.out; omega
      have hz1 : IntKind.i64.wrap ((k : Int) - 1) = (k : Int) - 1 := IntWalk.i64_in _ (by have := HK13.out; omega)
      cases gk with
      | zero =>
        obtain rfl : i = k := by have := HI.out; omega
        have HTL := Lib.hid (show t.data.toList.length = (Lib.uvarint n).length + i by rw [HT.out, vst_all, vlong_len])
        have HTS := Lib.hid (show t.size = t.data.toList.length by rw [Array.length_toList]; rfl)
        by_cases hlen : (Lib.uvarint n).length + i ≤ 10
        · have HV := Lib.hid (show vrd 0 0 t.data.toList = some (n, (Lib.uvarint n).length + i) by rw [HT.out, vst_all]; exact vlong_ok n i HN.out hlen)
          obtain ⟨z, hz⟩ : ∃ z, Hid ((Lib.uvarint n).length + i = z) := ⟨_, Lib.hid rfl⟩
          have hsz : t.size = z := by rw [HTS.out, HTL.out, hz.out]
          have HZ := Lib.hid (show z ≤ 10 by have := hz.out; omega)
          have hg : ¬ (10 < (z : Int)) := by have := HZ.out; omega
          rw [hz.out] at HV
          clear hlen
          go_wp2_with (first
            | (go_at_call 20; go_loud ((with_reducible refine (decVal_12_ok w.heap.size pe pl t _ (by rw [hsz]; have := HZ.out; omega) (HE.out.below HB.out) HB.out.size n z HV.out).mono ?_); rintro e_ w2 ⟨rfl, hb2⟩; have HB2 := Lib.hid (HB.out.trans (hb2.mono HB.out.size)); clear hb2))
            | (go_at_call 21; go_loud (refine (awake_any w.heap.size pe pl _ (HE.out.below (HB2.out.alloc HB2.out.size _)) (by have := HB2.out.size; simp; omega)).mono ?_; rintro e_ w3 ⟨rfl, hb3⟩; have HB3 := Lib.hid ((HB2.out.alloc HB2.out.size _).trans (hb3.mono (by have := HB2.out.size; simp; omega))); obtain ⟨hc_, hf_⟩ := (⟨fun o => hb3.cell (p := ⟨w2.heap.size, o, none⟩) (by simp), trivial⟩ : (∀ o, w3.cell? ⟨w2.heap.size, o, none⟩ = _) ∧ True); have x3 := (hc_ 3).trans ((blk_cell (heap_alloc_new w2 _) 3).trans rfl); clear hc_ hb3)))
          go_ret
          exact ⟨rfl, HB3.out⟩
        · have HV := Lib.hid (show vrd 0 0 t.data.toList = none by rw [HT.out, vst_all]; exact vlong_bad n i HN.out hlen)
          obtain ⟨z, hz⟩ : ∃ z, Hid ((Lib.uvarint n).length + i = z) := ⟨_, Lib.hid rfl⟩
          have hsz : t.size = z := by rw [HTS.out, HTL.out, hz.out]
          have HZ := Lib.hid (show z ≤ 1000 by have := hz.out; have := HK13.out; have := Lib.uvarint_length64 HN.out; omega)
          have hg : 10 < (z : Int) := by have := hz.out; omega
          clear hlen
          go_wp2_with (first
            | (go_at_call 20; go_loud ((with_reducible refine (decVal_12_bad w.heap.size pe pl t _ (by rw [hsz]; have := HZ.out; omega) (HE.out.below HB.out) HB.out.size HV.out).mono ?_); rintro e_ w2 ⟨rn, rs, rfl, hrn, hrs, hb2⟩; have hne1 := ne_empty hrs; have HB2 := Lib.hid (HB.out.trans (hb2.mono HB.out.size)); clear hb2 hrn hrs))
            | (go_at_call 21; go_loud (refine (awake_any w.heap.size pe pl _ (HE.out.below (HB2.out.alloc HB2.out.size _)) (by have := HB2.out.size; simp; omega)).mono ?_; rintro e_ w3 ⟨rfl, hb3⟩; have HB3 := Lib.hid ((HB2.out.alloc HB2.out.size _).trans (hb3.mono (by have := HB2.out.size; simp; omega))); obtain ⟨hc_, hf_⟩ := (⟨fun o => hb3.cell (p := ⟨w2.heap.size, o, none⟩) (by simp), trivial⟩ : (∀ o, w3.cell? ⟨w2.heap.size, o, none⟩ = _) ∧ True); have x3 := (hc_ 3).trans ((blk_cell (heap_alloc_new w2 _) 3).trans rfl); clear hc_ hb3)))
          go_ret
          exact ⟨rfl, HB3.out⟩
      | succ d =>
        have HI2 := Lib.hid (show i + d + 1 = k by have := HI.out; omega)
        have hwi : IntKind.i64.wrap ((i : Int) + 1) = (i : Int) + 1 := IntWalk.i64_in _ (by have := HK13.out; have := HI2.out; omega)
        have hwi2 : wrap64 ((i : Int) + 1) = (i : Int) + 1 := IntWalk.wrap64_in _ (by have := HK13.out; have := HI2.out; omega)
        have hlt : (i : Int) < (k : Int) := by have := HI2.out; omega
        have hsl : t.data.toList.length ≤ 1000000 := by
          rw [HT.out]
          have h1 := vst_len n k i (by have := HI2.out; omega)
          have h2 := Lib.uvarint_length64 HN.out
          have := HK13.out
          omega
        have ka := add1 t 0 hsl
        have kb := add1 t 128 hsl
        by_cases hd : d = 0
        · have hb : ((i : Int) == (k : Int) - 1) = true := by rw [beq_iff_eq]; have := HI2.out; omega
          clear HI hsl
          go_wp2
          go_roundg d
          case measure => exact Nat.lt_succ_self d
          case rel => exact ⟨i + 1, _, rfl, by go_num, Lib.hid (by have := HI2.out; omega), Lib.hid (by rw [data_append, HT.out, vst_end (by have := HI2.out; omega)]), HB⟩
        · have hb : ((i : Int) == (k : Int) - 1) = false := by rw [beq_eq_false_iff_ne]; have := HI2.out; omega
          clear HI hsl
          go_wp2
          go_roundg d
          case measure => exact Nat.lt_succ_self d
          case rel => exact ⟨i + 1, _, rfl, by go_num, Lib.hid (by have := HI2.out; omega), Lib.hid (by rw [data_append, HT.out, vst_on (by have := HI2.out; omega)]), HB⟩
  · have hkp : 0 < (k : Int) := by omega
    have HK := Lib.hid hk
    have HKP := Lib.hid hkp
    clear hk hk0 hn he hmore hs hu hv hc hx ht0
    go_enter Tryd.func11, Tryd.ntmps11
    go_wp2_with (go_at_call 32; go_loud (refine (HC.out w).mono ?_; rintro e_ w1 ⟨rfl, hb1⟩; have HB1 := Lib.hid hb1; clear hb1))
    go_region
    clear hm1 hm2 hm3 hm4 hm5 hm6 hm7 hor kc kadd
    go_wp2
    go_loopg [5, 33] k (fun kq v5 v33 wr => ∃ (i : Nat) (t : ByteArray), v5 = .string t ∧ v33 = .int .i64 i ∧ Hid (i + kq = k) ∧ Hid (t.data.toList = vst n k i) ∧ Hid (Below w.heap.size w wr))
    case atStart => exact ⟨0, _, rfl, rfl, Lib.hid (by omega), Lib.hid (HV0.out (by have := HKP.out; omega)), Lib.hid (HB1.out.alloc HB1.out.size _).drew⟩
    case round =>
      obtain ⟨i, t, rfl, rfl, HI, HT, HB⟩ := hrel
      have hz0 : wrap64 ((k : Int) - 1) = (k : Int) - 1 := by unfold wrap64; have := HK13.out; omega
      have hz1 : IntKind.i64.wrap ((k : Int) - 1) = (k : Int) - 1 := IntWalk.i64_in _ (by have := HK13.out; omega)
      cases gk with
      | zero =>
        obtain rfl : i = k := by have := HI.out; omega
        have HTL := Lib.hid (show t.data.toList.length = (Lib.uvarint n).length + i by rw [HT.out, vst_all, vlong_len])
        have HTS := Lib.hid (show t.size = t.data.toList.length by rw [Array.length_toList]; rfl)
        by_cases hlen : (Lib.uvarint n).length + i ≤ 10
        · have HV := Lib.hid (show vrd 0 0 t.data.toList = some (n, (Lib.uvarint n).length + i) by rw [HT.out, vst_all]; exact vlong_ok n i HN.out hlen)
          obtain ⟨z, hz⟩ : ∃ z, Hid ((Lib.uvarint n).length + i = z) := ⟨_, Lib.hid rfl⟩
          have hsz : t.size = z := by rw [HTS.out, HTL.out, hz.out]
          have HZ := Lib.hid (show z ≤ 10 by have := hz.out; omega)
          have hg : ¬ (10 < (z : Int)) := by have := HZ.out; omega
          rw [hz.out] at HV
          clear hlen
          go_wp2_with (first
            | (go_at_call 20; go_loud ((with_reducible refine (decVal_12_ok w.heap.size pe pl t _ (by rw [hsz]; have := HZ.out; omega) (HE.out.below HB.out) HB.out.size n z HV.out).mono ?_); rintro e_ w2 ⟨rfl, hb2⟩; have HB2 := Lib.hid (HB.out.trans (hb2.mono HB.out.size)); clear hb2))
            | (go_at_call 21; go_loud (refine (awake_any w.heap.size pe pl _ (HE.out.below (HB2.out.alloc HB2.out.size _)) (by have := HB2.out.size; simp; omega)).mono ?_; rintro e_ w3 ⟨rfl, hb3⟩; have HB3 := Lib.hid ((HB2.out.alloc HB2.out.size _).trans (hb3.mono (by have := HB2.out.size; simp; omega))); obtain ⟨hc_, hf_⟩ := (⟨fun o => hb3.cell (p := ⟨w2.heap.size, o, none⟩) (by simp), trivial⟩ : (∀ o, w3.cell? ⟨w2.heap.size, o, none⟩ = _) ∧ True); have x3 := (hc_ 3).trans ((blk_cell (heap_alloc_new w2 _) 3).trans rfl); clear hc_ hb3)))
          go_ret
          exact ⟨rfl, HB3.out⟩
        · have HV := Lib.hid (show vrd 0 0 t.data.toList = none by rw [HT.out, vst_all]; exact vlong_bad n i HN.out hlen)
          obtain ⟨z, hz⟩ : ∃ z, Hid ((Lib.uvarint n).length + i = z) := ⟨_, Lib.hid rfl⟩
          have hsz : t.size = z := by rw [HTS.out, HTL.out, hz.out]
          have HZ := Lib.hid (show z ≤ 1000 by have := hz.out; have := HK13.out; have := Lib.uvarint_length64 HN.out; omega)
          have hg : 10 < (z : Int) := by have := hz.out; omega
          clear hlen
          go_wp2_with (first
            | (go_at_call 20; go_loud ((with_reducible refine (decVal_12_bad w.heap.size pe pl t _ (by rw [hsz]; have := HZ.out; omega) (HE.out.below HB.out) HB.out.size HV.out).mono ?_); rintro e_ w2 ⟨rn, rs, rfl, hrn, hrs, hb2⟩; have hne1 := ne_empty hrs; have HB2 := Lib.hid (HB.out.trans (hb2.mono HB.out.size)); clear hb2 hrn hrs))
            | (go_at_call 21; go_loud (refine (awake_any w.heap.size pe pl _ (HE.out.below (HB2.out.alloc HB2.out.size _)) (by have := HB2.out.size; simp; omega)).mono ?_; rintro e_ w3 ⟨rfl, hb3⟩; have HB3 := Lib.hid ((HB2.out.alloc HB2.out.size _).trans (hb3.mono (by have := HB2.out.size; simp; omega))); obtain ⟨hc_, hf_⟩ := (⟨fun o => hb3.cell (p := ⟨w2.heap.size, o, none⟩) (by simp), trivial⟩ : (∀ o, w3.cell? ⟨w2.heap.size, o, none⟩ = _) ∧ True); have x3 := (hc_ 3).trans ((blk_cell (heap_alloc_new w2 _) 3).trans rfl); clear hc_ hb3)))
          go_ret
          exact ⟨rfl, HB3.out⟩
      | succ d =>
        have HI2 := Lib.hid (show i + d + 1 = k by have := HI.out; omega)
        have hwi : IntKind.i64.wrap ((i : Int) + 1) = (i : Int) + 1 := IntWalk.i64_in _ (by have := HK13.out; have := HI2.out; omega)
        have hwi2 : wrap64 ((i : Int) + 1) = (i : Int) + 1 := IntWalk.wrap64_in _ (by have := HK13.out; have := HI2.out; omega)
        have hlt : (i : Int) < (k : Int) := by have := HI2.out; omega
        have hsl : t.data.toList.length ≤ 1000000 := by
          rw [HT.out]
          have h1 := vst_len n k i (by have := HI2.out; omega)
          have h2 := Lib.uvarint_length64 HN.out
          have := HK13.out
          omega
        have ka := add1 t 0 hsl
        have kb := add1 t 128 hsl
        by_cases hd : d = 0
        · have hb : ((i : Int) == (k : Int) - 1) = true := by rw [beq_iff_eq]; have := HI2.out; omega
          clear HI hsl
          go_wp2
          go_roundg d
          case measure => exact Nat.lt_succ_self d
          case rel => exact ⟨i + 1, _, rfl, by go_num, Lib.hid (by have := HI2.out; omega), Lib.hid (by rw [data_append, HT.out, vst_end (by have := HI2.out; omega)]), HB⟩
        · have hb : ((i : Int) == (k : Int) - 1) = false := by rw [beq_eq_false_iff_ne]; have := HI2.out; omega
          clear HI hsl
          go_wp2
          go_roundg d
          case measure => exact Nat.lt_succ_self d
          case rel => exact ⟨i + 1, _, rfl, by go_num, Lib.hid (by have := HI2.out; omega), Lib.hid (by rw [data_append, HT.out, vst_on (by have := HI2.out; omega)]), HB⟩
theorem varLong_row (pe pl : Addr) (n more : Int) (w : World) (hn : (Lit.int .u64 n).wf = true) (hm : (Lit.int .u8 more).wf = true) (he : Env w.heap.size pe pl w) :
    Calls Tryd.prog 11 #[.int .u64 n, .int .u8 more] w fun e w' => e = .returned (.bool true) ∧ Below w.heap.size w w' := by
  obtain ⟨h0, h1⟩ := u64_bd hn
  obtain ⟨g0, g1⟩ := u8_bd hm
  obtain ⟨k, rfl⟩ := Int.eq_ofNat_of_zero_le h0
  obtain ⟨m, rfl⟩ := Int.eq_ofNat_of_zero_le g0
  exact varLong_walk pe pl k (m % 13) m w (by omega) (by omega) rfl he
end Go.Proofs.YtgdbeiadlgkedaaDoor
