/- Contracts and plain laws, several texts in one. -/
import Derived.Test.YtgdbeiadlgkedaaDoorMDecode9
import Derived.Test.YtgdbeiadlgkedaaDoorMDecode22
import Derived.Test.YtgdbeiadlgkedaaDoorMDecode25
namespace Go.Proofs.YtgdbeiadlgkedaaDoor
open Go.RowKit
set_option linter.unusedVariables false
set_option linter.unusedSimpArgs false
theorem zp_same {w : World} {b : Nat} (h : w.heap[b]? = some (.cells zP 100 (0, 0))) (k : Nat) : (((((w.setCell ⟨b, 0, none⟩ (.int .u8 0)).setCell ⟨b, 1, none⟩ (.bool false)).setCell ⟨b, 2, none⟩ (.bool false)).setCell ⟨b, 3, none⟩ (.int .i64 0)).setCell ⟨b, 4, none⟩ (.int .i64 0)).heap[k]? = w.heap[k]? := by
  have s0 := fun k => same_set h (i := 0) (v := (.int .u8 0)) rfl k
  have h0 := (s0 b).trans h
  have s1 := fun k => same_set h0 (i := 1) (v := (.bool false)) rfl k
  have h1 := (s1 b).trans h0
  have s2 := fun k => same_set h1 (i := 2) (v := (.bool false)) rfl k
  have h2 := (s2 b).trans h1
  have s3 := fun k => same_set h2 (i := 3) (v := (.int .i64 0)) rfl k
  have h3 := (s3 b).trans h2
  have s4 := fun k => same_set h3 (i := 4) (v := (.int .i64 0)) rfl k
  have h4 := (s4 b).trans h3
  exact (s4 k).trans ((s3 k).trans ((s2 k).trans ((s1 k).trans (s0 k))))
theorem zv6_same {w : World} {b : Nat} (h : w.heap[b]? = some (.cells (zv 6) 26 (0, 0))) (k : Nat) : (((((w.setCell ⟨b, 6, none⟩ (.int .i64 0)).setCell ⟨b, 7, none⟩ (.bool false)).setCell ⟨b, 8, none⟩ (.bool false)).setCell ⟨b, 9, none⟩ (.int .i64 0)).setCell ⟨b, 10, none⟩ (.int .i64 0)).heap[k]? = w.heap[k]? := by
  have s0 := fun k => same_set h (i := 6) (v := (.int .i64 0)) rfl k
  have h0 := (s0 b).trans h
  have s1 := fun k => same_set h0 (i := 7) (v := (.bool false)) rfl k
  have h1 := (s1 b).trans h0
  have s2 := fun k => same_set h1 (i := 8) (v := (.bool false)) rfl k
  have h2 := (s2 b).trans h1
  have s3 := fun k => same_set h2 (i := 9) (v := (.int .i64 0)) rfl k
  have h3 := (s3 b).trans h2
  have s4 := fun k => same_set h3 (i := 10) (v := (.int .i64 0)) rfl k
  have h4 := (s4 b).trans h3
  exact (s4 k).trans ((s3 k).trans ((s2 k).trans ((s1 k).trans (s0 k))))
set_option maxHeartbeats 8000000 in
set_option maxRecDepth 100000 in
theorem decVal_6_ok (B : Nat) (pe pl : Addr) (t : ByteArray) (w : World) (ht : t.size ≤ 4294967296) (he : Env B pe pl w) (hB : B ≤ w.heap.size) (ty : Nat) (f l : Bool) (i n : Int) (K : Nat) (hR : ty < 256 ∧ ∀ (r g : Nat) (w1 : World), Rd r g t.data.toList 0 w1 → Env B pe pl w1 → B ≤ r → B ≤ w1.heap.size → Calls Tryd.prog 53 #[rdI r] w1 fun e w' => e = .returned (.tuple #[.agg #[.int .u8 ty, .bool f, .bool l, .int .i64 i, .int .i64 n], .nilIface]) ∧ w1.grownBy w' (some r) ∧ Rd r g t.data.toList (0 + K) w') :
    Calls Tryd.prog 20 #[.int .i64 6, .string t] w fun e w' => e = .returned (.tuple #[.agg #[(.int .i64 6), (.bool false), (.int .i64 0), (.int .u64 0), (.int .u64 0), (.string ⟨#[]⟩), (.int .i64 ty), (.bool f), (.bool l), (.int .i64 i), (.int .i64 n)], .int .i64 (K : Nat), .string ⟨#[]⟩]) ∧ Below w.heap.size w w' := by
  have kc := conv_bytes
  have HT := Lib.hid (And.intro ht (And.intro he hB))
  have HY := Lib.hid hR
  clear ht he hB hR
  go_enter Tryd.func20, Tryd.ntmps20
  go_wp2_with (first
    | (go_at_call 45; go_loud (refine (newRd_any (w.alloc (.cells (zv 0) 26)) (w.heap.size + 1) (World.size_alloc ..) t HT.out.1).mono ?_; rintro e_ w1 ⟨r, rfl, hr1, hr2, hr3⟩; obtain ⟨hs1, hs2, hs3, hs4⟩ := dv_start (b := 0) HT.out.2.2 HT.out.2.1 hr2 hr3; have y0 : w1.cell? ⟨w.heap.size, 0, none⟩ = some (.int .i64 0) := (blk_cell hs1 0).trans rfl; have g0 : w1.frozen? ⟨w.heap.size, 0, none⟩ = false := blk_frozen hs1 0; have HS := Lib.hid (And.intro hr1 (And.intro hs1 (And.intro hs2 (And.intro hs3 hs4)))); have HR3 := Lib.hid hr3; clear hr1 hr2 hr3 hs1 hs2 hs3 hs4))
    | (go_at_call 53; go_loud (refine (HY.out.2 r (w.heap.size + 1) _ ?rd ?en HS.out.2.2.2.2 ?sz).mono ?_; (case rd => exact (HS.out.1.set _ _ (by have := HR3.out; show w.heap.size ≠ r; omega) (by show w.heap.size ≠ w.heap.size + 1; omega)).alloc _); (case en => exact HS.out.2.2.1.below (((Below.refl _ _).setCell (by exact HT.out.2.2) _).alloc (by have := HS.out.1.lt; have := HS.out.2.2.2.2; simp [World.setCell]; omega) _)); (case sz => have := HS.out.1.lt; have := HS.out.2.2.2.2; simp [World.setCell]; omega); rintro e_ w2 ⟨rfl, hg, hrd⟩; have hb2 : w2.heap[w.heap.size]? = some (.cells (zv 6) 26 (0, 0)) := (hg.block _ (by have := blk_lt HS.out.2.1; simp [World.setCell]; omega) (by have := HR3.out; intro e; cases e; omega)).trans ((Below.heap_alloc _ _ _ (by have := blk_lt HS.out.2.1; simpa [World.setCell] using this)).trans ((Lib.heap_setCell_same (i := 0) HS.out.2.1 (.int .i64 6)).trans rfl)); have c0 : w2.cell? ⟨w.heap.size, 0, none⟩ = some (.int .i64 6) := (blk_cell hb2 0).trans rfl; have f0 : w2.frozen? ⟨w.heap.size, 0, none⟩ = false := blk_frozen hb2 0; have c1 : w2.cell? ⟨w.heap.size, 1, none⟩ = some (.bool false) := (blk_cell hb2 1).trans rfl; have f1 : w2.frozen? ⟨w.heap.size, 1, none⟩ = false := blk_frozen hb2 1; have c2 : w2.cell? ⟨w.heap.size, 2, none⟩ = some (.int .i64 0) := (blk_cell hb2 2).trans rfl; have f2 : w2.frozen? ⟨w.heap.size, 2, none⟩ = false := blk_frozen hb2 2; have c3 : w2.cell? ⟨w.heap.size, 3, none⟩ = some (.int .u64 0) := (blk_cell hb2 3).trans rfl; have f3 : w2.frozen? ⟨w.heap.size, 3, none⟩ = false := blk_frozen hb2 3; have c4 : w2.cell? ⟨w.heap.size, 4, none⟩ = some (.int .u64 0) := (blk_cell hb2 4).trans rfl; have f4 : w2.frozen? ⟨w.heap.size, 4, none⟩ = false := blk_frozen hb2 4; have c5 : w2.cell? ⟨w.heap.size, 5, none⟩ = some (.string ⟨#[]⟩) := (blk_cell hb2 5).trans rfl; have f5 : w2.frozen? ⟨w.heap.size, 5, none⟩ = false := blk_frozen hb2 5; have c6 : w2.cell? ⟨w.heap.size, 6, none⟩ = some (.int .i64 0) := (blk_cell hb2 6).trans rfl; have f6 : w2.frozen? ⟨w.heap.size, 6, none⟩ = false := blk_frozen hb2 6; have c7 : w2.cell? ⟨w.heap.size, 7, none⟩ = some (.bool false) := (blk_cell hb2 7).trans rfl; have f7 : w2.frozen? ⟨w.heap.size, 7, none⟩ = false := blk_frozen hb2 7; have c8 : w2.cell? ⟨w.heap.size, 8, none⟩ = some (.bool false) := (blk_cell hb2 8).trans rfl; have f8 : w2.frozen? ⟨w.heap.size, 8, none⟩ = false := blk_frozen hb2 8; have c9 : w2.cell? ⟨w.heap.size, 9, none⟩ = some (.int .i64 0) := (blk_cell hb2 9).trans rfl; have f9 : w2.frozen? ⟨w.heap.size, 9, none⟩ = false := blk_frozen hb2 9; have c10 : w2.cell? ⟨w.heap.size, 10, none⟩ = some (.int .i64 0) := (blk_cell hb2 10).trans rfl; have f10 : w2.frozen? ⟨w.heap.size, 10, none⟩ = false := blk_frozen hb2 10; rw [Nat.zero_add] at hrd; have hsb : w2.heap[w1.heap.size]? = some (.cells zP 100 (0, 0)) := (hg.block _ (by simp [World.setCell]) (by have := HS.out.1.lt; intro e; cases e; omega)).trans (by have := heap_alloc_new (w1.setCell ⟨w.heap.size, 0, none⟩ (.int .i64 6)) (.cells zP 100); simpa [World.setCell] using this); have s0 : w2.cell? ⟨w1.heap.size, 0, none⟩ = some (.int .u8 0) := (blk_cell hsb 0).trans rfl; have t0 : w2.frozen? ⟨w1.heap.size, 0, none⟩ = false := blk_frozen hsb 0; have s1 : w2.cell? ⟨w1.heap.size, 1, none⟩ = some (.bool false) := (blk_cell hsb 1).trans rfl; have t1 : w2.frozen? ⟨w1.heap.size, 1, none⟩ = false := blk_frozen hsb 1; have s2 : w2.cell? ⟨w1.heap.size, 2, none⟩ = some (.bool false) := (blk_cell hsb 2).trans rfl; have t2 : w2.frozen? ⟨w1.heap.size, 2, none⟩ = false := blk_frozen hsb 2; have s3 : w2.cell? ⟨w1.heap.size, 3, none⟩ = some (.int .i64 0) := (blk_cell hsb 3).trans rfl; have t3 : w2.frozen? ⟨w1.heap.size, 3, none⟩ = false := blk_frozen hsb 3; have s4 : w2.cell? ⟨w1.heap.size, 4, none⟩ = some (.int .i64 0) := (blk_cell hsb 4).trans rfl; have t4 : w2.frozen? ⟨w1.heap.size, 4, none⟩ = false := blk_frozen hsb 4; have HSB := Lib.hid hsb; clear hsb; have HB0 := Lib.hid hb2; have HG := Lib.hid hg; have HD := Lib.hid hrd; clear hg hrd hb2))
    | (go_at_call 54; go_loud (refine (backPane_any ty f l i n HY.out.1 _).mono ?_; rintro e_ w3 ⟨rfl, hb3⟩; clear c0 f0 c1 f1 c2 f2 c3 f3 c4 f4 c5 f5 c6 f6 c7 f7 c8 f8 c9 f9 c10 f10 s0 t0 s1 t1 s2 t2 s3 t3 s4 t4; have hk3 : ∀ k, k < w2.heap.size → k ≠ w1.heap.size → w3.heap[k]? = w2.heap[k]? := (fun k hk hn => (hb3.block k (by simpa [World.setCell] using hk)).trans ((Below.heap_setCell _ _ _ _ hn).trans ((Below.heap_setCell _ _ _ _ hn).trans ((Below.heap_setCell _ _ _ _ hn).trans ((Below.heap_setCell _ _ _ _ hn).trans (Below.heap_setCell _ _ _ _ hn)))))); have hb3b : w3.heap[w.heap.size]? = some (.cells (zv 6) 26 (0, 0)) := (hk3 _ (blk_lt HB0.out) (by have := HS.out.1.lt; have := HR3.out; omega)).trans HB0.out; have c0 : w3.cell? ⟨w.heap.size, 0, none⟩ = some (.int .i64 6) := (blk_cell hb3b 0).trans rfl; have f0 : w3.frozen? ⟨w.heap.size, 0, none⟩ = false := blk_frozen hb3b 0; have c1 : w3.cell? ⟨w.heap.size, 1, none⟩ = some (.bool false) := (blk_cell hb3b 1).trans rfl; have f1 : w3.frozen? ⟨w.heap.size, 1, none⟩ = false := blk_frozen hb3b 1; have c2 : w3.cell? ⟨w.heap.size, 2, none⟩ = some (.int .i64 0) := (blk_cell hb3b 2).trans rfl; have f2 : w3.frozen? ⟨w.heap.size, 2, none⟩ = false := blk_frozen hb3b 2; have c3 : w3.cell? ⟨w.heap.size, 3, none⟩ = some (.int .u64 0) := (blk_cell hb3b 3).trans rfl; have f3 : w3.frozen? ⟨w.heap.size, 3, none⟩ = false := blk_frozen hb3b 3; have c4 : w3.cell? ⟨w.heap.size, 4, none⟩ = some (.int .u64 0) := (blk_cell hb3b 4).trans rfl; have f4 : w3.frozen? ⟨w.heap.size, 4, none⟩ = false := blk_frozen hb3b 4; have c5 : w3.cell? ⟨w.heap.size, 5, none⟩ = some (.string ⟨#[]⟩) := (blk_cell hb3b 5).trans rfl; have f5 : w3.frozen? ⟨w.heap.size, 5, none⟩ = false := blk_frozen hb3b 5; have c6 : w3.cell? ⟨w.heap.size, 6, none⟩ = some (.int .i64 0) := (blk_cell hb3b 6).trans rfl; have f6 : w3.frozen? ⟨w.heap.size, 6, none⟩ = false := blk_frozen hb3b 6; have c7 : w3.cell? ⟨w.heap.size, 7, none⟩ = some (.bool false) := (blk_cell hb3b 7).trans rfl; have f7 : w3.frozen? ⟨w.heap.size, 7, none⟩ = false := blk_frozen hb3b 7; have c8 : w3.cell? ⟨w.heap.size, 8, none⟩ = some (.bool false) := (blk_cell hb3b 8).trans rfl; have f8 : w3.frozen? ⟨w.heap.size, 8, none⟩ = false := blk_frozen hb3b 8; have c9 : w3.cell? ⟨w.heap.size, 9, none⟩ = some (.int .i64 0) := (blk_cell hb3b 9).trans rfl; have f9 : w3.frozen? ⟨w.heap.size, 9, none⟩ = false := blk_frozen hb3b 9; have c10 : w3.cell? ⟨w.heap.size, 10, none⟩ = some (.int .i64 0) := (blk_cell hb3b 10).trans rfl; have f10 : w3.frozen? ⟨w.heap.size, 10, none⟩ = false := blk_frozen hb3b 10; have HB3 := Lib.hid hb3b; have HD3 := Lib.hid ((((((HD.out.set ⟨w1.heap.size, 0, none⟩ (.int .u8 ty) (by have := HS.out.1.lt; have := HR3.out; show w1.heap.size ≠ r; omega) (by have := HS.out.1.ltg; show w1.heap.size ≠ w.heap.size + 1; omega)).set ⟨w1.heap.size, 1, none⟩ (.bool f) (by have := HS.out.1.lt; have := HR3.out; show w1.heap.size ≠ r; omega) (by have := HS.out.1.ltg; show w1.heap.size ≠ w.heap.size + 1; omega)).set ⟨w1.heap.size, 2, none⟩ (.bool l) (by have := HS.out.1.lt; have := HR3.out; show w1.heap.size ≠ r; omega) (by have := HS.out.1.ltg; show w1.heap.size ≠ w.heap.size + 1; omega)).set ⟨w1.heap.size, 3, none⟩ (.int .i64 i) (by have := HS.out.1.lt; have := HR3.out; show w1.heap.size ≠ r; omega) (by have := HS.out.1.ltg; show w1.heap.size ≠ w.heap.size + 1; omega)).set ⟨w1.heap.size, 4, none⟩ (.int .i64 n) (by have := HS.out.1.lt; have := HR3.out; show w1.heap.size ≠ r; omega) (by have := HS.out.1.ltg; show w1.heap.size ≠ w.heap.size + 1; omega)).below hb3); have HBW := Lib.hid (((((((((HS.out.2.2.2.1.setCell (p := ⟨w.heap.size, 0, none⟩) (Nat.le_refl _) (.int .i64 6)).alloc (by have := HS.out.2.2.2.1.size; simpa [World.setCell] using this) (.cells zP 100)).trans (grown_below HG.out (by have := HS.out.2.2.2.1.size; simp [World.setCell]; omega) (by have := HR3.out; omega))).setCell (p := ⟨w1.heap.size, 0, none⟩) HS.out.2.2.2.1.size (.int .u8 ty)).setCell (p := ⟨w1.heap.size, 1, none⟩) HS.out.2.2.2.1.size (.bool f)).setCell (p := ⟨w1.heap.size, 2, none⟩) HS.out.2.2.2.1.size (.bool l)).setCell (p := ⟨w1.heap.size, 3, none⟩) HS.out.2.2.2.1.size (.int .i64 i)).setCell (p := ⟨w1.heap.size, 4, none⟩) HS.out.2.2.2.1.size (.int .i64 n)).trans (hb3.mono (by have h := HG.out.size; have h2 := HS.out.2.2.2.1.size; simp only [World.size_setCell, World.size_alloc] at h ⊢; clear hb3; omega))); clear hb3 hk3 hb3b)))
  obtain ⟨W, hW⟩ : ∃ W, W = w3.setCells w.heap.size 6 [(.int .i64 ty), (.bool f), (.bool l), (.int .i64 i), (.int .i64 n)] := ⟨_, rfl⟩
  simp only [World.setCells] at hW
  have HB2 := Lib.hid (show W.heap[w.heap.size]? = some (.cells #[(.int .i64 6), (.bool false), (.int .i64 0), (.int .u64 0), (.int .u64 0), (.string ⟨#[]⟩), (.int .i64 ty), (.bool f), (.bool l), (.int .i64 i), (.int .i64 n)] 26 (0, 0)) by
    rw [hW]; exact (Lib.heap_setCell_same (i := 10) (Lib.heap_setCell_same (i := 9) (Lib.heap_setCell_same (i := 8) (Lib.heap_setCell_same (i := 7) (Lib.heap_setCell_same (i := 6) HB3.out (.int .i64 ty)) (.bool f)) (.bool l)) (.int .i64 i)) (.int .i64 n)).trans rfl)
  have HD2 := Lib.hid (show Rd r (w.heap.size + 1) t.data.toList K W by
    rw [hW]; exact (((((HD3.out.set ⟨w.heap.size, 6, none⟩ (.int .i64 ty) (by have := HR3.out; show w.heap.size ≠ r; omega) (by show w.heap.size ≠ w.heap.size + 1; omega)).set ⟨w.heap.size, 7, none⟩ (.bool f) (by have := HR3.out; show w.heap.size ≠ r; omega) (by show w.heap.size ≠ w.heap.size + 1; omega)).set ⟨w.heap.size, 8, none⟩ (.bool l) (by have := HR3.out; show w.heap.size ≠ r; omega) (by show w.heap.size ≠ w.heap.size + 1; omega)).set ⟨w.heap.size, 9, none⟩ (.int .i64 i) (by have := HR3.out; show w.heap.size ≠ r; omega) (by show w.heap.size ≠ w.heap.size + 1; omega)).set ⟨w.heap.size, 10, none⟩ (.int .i64 n) (by have := HR3.out; show w.heap.size ≠ r; omega) (by show w.heap.size ≠ w.heap.size + 1; omega)))
  have HBW2 := Lib.hid (show Below w.heap.size w W by rw [hW]; exact (((((HBW.out.setCell (p := ⟨w.heap.size, 6, none⟩) (Nat.le_refl _) (.int .i64 ty)).setCell (p := ⟨w.heap.size, 7, none⟩) (Nat.le_refl _) (.bool f)).setCell (p := ⟨w.heap.size, 8, none⟩) (Nat.le_refl _) (.bool l)).setCell (p := ⟨w.heap.size, 9, none⟩) (Nat.le_refl _) (.int .i64 i)).setCell (p := ⟨w.heap.size, 10, none⟩) (Nat.le_refl _) (.int .i64 n)))
  rw [← hW]
  have HW := Lib.hid hW
  clear hW c0 f0 c1 f1 c2 f2 c3 f3 c4 f4 c5 f5 c6 f6 c7 f7 c8 f8 c9 f9 c10 f10
  have c0 : W.cell? ⟨w.heap.size, 0, none⟩ = some (.int .i64 6) := (blk_cell HB2.out 0).trans rfl
  have f0 : W.frozen? ⟨w.heap.size, 0, none⟩ = false := blk_frozen HB2.out 0
  have c1 : W.cell? ⟨w.heap.size, 1, none⟩ = some (.bool false) := (blk_cell HB2.out 1).trans rfl
  have f1 : W.frozen? ⟨w.heap.size, 1, none⟩ = false := blk_frozen HB2.out 1
  have c2 : W.cell? ⟨w.heap.size, 2, none⟩ = some (.int .i64 0) := (blk_cell HB2.out 2).trans rfl
  have f2 : W.frozen? ⟨w.heap.size, 2, none⟩ = false := blk_frozen HB2.out 2
  have c3 : W.cell? ⟨w.heap.size, 3, none⟩ = some (.int .u64 0) := (blk_cell HB2.out 3).trans rfl
  have f3 : W.frozen? ⟨w.heap.size, 3, none⟩ = false := blk_frozen HB2.out 3
  have c4 : W.cell? ⟨w.heap.size, 4, none⟩ = some (.int .u64 0) := (blk_cell HB2.out 4).trans rfl
  have f4 : W.frozen? ⟨w.heap.size, 4, none⟩ = false := blk_frozen HB2.out 4
  have c5 : W.cell? ⟨w.heap.size, 5, none⟩ = some (.string ⟨#[]⟩) := (blk_cell HB2.out 5).trans rfl
  have f5 : W.frozen? ⟨w.heap.size, 5, none⟩ = false := blk_frozen HB2.out 5
  have c6 : W.cell? ⟨w.heap.size, 6, none⟩ = some (.int .i64 ty) := (blk_cell HB2.out 6).trans rfl
  have f6 : W.frozen? ⟨w.heap.size, 6, none⟩ = false := blk_frozen HB2.out 6
  have c7 : W.cell? ⟨w.heap.size, 7, none⟩ = some (.bool f) := (blk_cell HB2.out 7).trans rfl
  have f7 : W.frozen? ⟨w.heap.size, 7, none⟩ = false := blk_frozen HB2.out 7
  have c8 : W.cell? ⟨w.heap.size, 8, none⟩ = some (.bool l) := (blk_cell HB2.out 8).trans rfl
  have f8 : W.frozen? ⟨w.heap.size, 8, none⟩ = false := blk_frozen HB2.out 8
  have c9 : W.cell? ⟨w.heap.size, 9, none⟩ = some (.int .i64 i) := (blk_cell HB2.out 9).trans rfl
  have f9 : W.frozen? ⟨w.heap.size, 9, none⟩ = false := blk_frozen HB2.out 9
  have c10 : W.cell? ⟨w.heap.size, 10, none⟩ = some (.int .i64 n) := (blk_cell HB2.out 10).trans rfl
  have f10 : W.frozen? ⟨w.heap.size, 10, none⟩ = false := blk_frozen HB2.out 10
  have qs : (t.size : Int) - ((t.data.toList.length - K : Nat) : Int) = (K : Nat) := by
    have h1 := HD2.out.le
    have h2 : t.data.toList.length = t.size := by rw [Array.length_toList]; rfl
    omega
  have qs2 : IntKind.i64.wrap ((K : Nat) : Int) = (K : Nat) := IntWalk.i64_in _ (by have := HD2.out.le; have := HD2.out.len; omega)
  obtain ⟨L, hL⟩ : ∃ L, Hid (t.data.toList.length - K = L) := ⟨_, Lib.hid rfl⟩
  rw [hL.out] at qs
  clear HB0 HB3 HD HD3 HG HSB HBW HW HR3 HS HT HY
  go_region_with (first | (go_at_call 62; refine (len_any r (w.heap.size + 1) t.data.toList K _ ?rd).mono ?_; (case rd => exact HD2.out.drewN 1); rw [hL.out]; rintro e_ w4 ⟨rfl, q4, rfl⟩) | (go_at_call 63; refine (word_nil _).mono ?_; rintro e_ w5 ⟨rfl, rfl⟩))
  all_goals
    refine (by assumption : ∀ (a : Act) (w : World), Code.wp _ Code.ret _ a w → _) _ _ ?_
    go_wp2
    obtain ⟨X, hX⟩ : ∃ X, X = (W.drewN (1 + q4)).setCells w.heap.size 0 [(.int .i64 6), (.bool false), (.int .i64 0), (.int .u64 0), (.int .u64 0), (.string ⟨#[]⟩), (.int .i64 ty), (.bool f), (.bool l), (.int .i64 i), (.int .i64 n)] := ⟨_, rfl⟩
    have hXb : X.heap[w.heap.size]? = some (.cells #[(.int .i64 6), (.bool false), (.int .i64 0), (.int .u64 0), (.int .u64 0), (.string ⟨#[]⟩), (.int .i64 ty), (.bool f), (.bool l), (.int .i64 i), (.int .i64 n)] 26 (0, 0)) := by
      rw [hX]; exact setCells_self _ _ _ _ _ 0 (W.drewN (1 + q4)) HB2.out (fun j v hj => by rw [Nat.zero_add]; simpa using hj)
    have hXw : Below w.heap.size w X := by
      rw [hX]
      exact (below_drewN HBW2.out (1 + q4)).trans (Lib.below_setCells_w (Nat.le_refl _) _ _ _)
    simp only [World.setCells] at hX
    rw [← hX]
    have HX := Lib.hid hXw
    clear hX hXw c0 f0 c1 f1 c2 f2 c3 f3 c4 f4 c5 f5 c6 f6 c7 f7 c8 f8 c9 f9 c10 f10
    have c0 : X.cell? ⟨w.heap.size, 0, none⟩ = some (.int .i64 6) := (blk_cell hXb 0).trans rfl
    have c1 : X.cell? ⟨w.heap.size, 1, none⟩ = some (.bool false) := (blk_cell hXb 1).trans rfl
    have c2 : X.cell? ⟨w.heap.size, 2, none⟩ = some (.int .i64 0) := (blk_cell hXb 2).trans rfl
    have c3 : X.cell? ⟨w.heap.size, 3, none⟩ = some (.int .u64 0) := (blk_cell hXb 3).trans rfl
    have c4 : X.cell? ⟨w.heap.size, 4, none⟩ = some (.int .u64 0) := (blk_cell hXb 4).trans rfl
    have c5 : X.cell? ⟨w.heap.size, 5, none⟩ = some (.string ⟨#[]⟩) := (blk_cell hXb 5).trans rfl
    have c6 : X.cell? ⟨w.heap.size, 6, none⟩ = some (.int .i64 ty) := (blk_cell hXb 6).trans rfl
    have c7 : X.cell? ⟨w.heap.size, 7, none⟩ = some (.bool f) := (blk_cell hXb 7).trans rfl
    have c8 : X.cell? ⟨w.heap.size, 8, none⟩ = some (.bool l) := (blk_cell hXb 8).trans rfl
    have c9 : X.cell? ⟨w.heap.size, 9, none⟩ = some (.int .i64 i) := (blk_cell hXb 9).trans rfl
    have c10 : X.cell? ⟨w.heap.size, 10, none⟩ = some (.int .i64 n) := (blk_cell hXb 10).trans rfl
    clear hXb
    refine bodyPost_ret (v := .tuple #[.agg #[(.int .i64 6), (.bool false), (.int .i64 0), (.int .u64 0), (.int .u64 0), (.string ⟨#[]⟩), (.int .i64 ty), (.bool f), (.bool l), (.int .i64 i), (.int .i64 n)], .int .i64 (K : Nat), .string ⟨#[]⟩]) (by simp [results, Tryd.results20, go_sem, c0, c1, c2, c3, c4, c5, c6, c7, c8, c9, c10]; try rfl) rfl ⟨rfl, HX.out⟩
set_option maxHeartbeats 8000000 in
set_option maxRecDepth 100000 in
theorem decVal_6_bad (B : Nat) (pe pl : Addr) (t : ByteArray) (w : World) (ht : t.size ≤ 4294967296) (he : Env B pe pl w) (hB : B ≤ w.heap.size) (hR : ∀ (r g : Nat) (w1 : World), Rd r g t.data.toList 0 w1 → Env B pe pl w1 → B ≤ r → B ≤ w1.heap.size → Calls Tryd.prog 53 #[rdI r] w1 fun e w' => ∃ ev, e = .returned (.tuple #[.agg #[.int .u8 0, .bool false, .bool false, .int .i64 0, .int .i64 0], ev]) ∧ Fell r g t.data.toList w1 w' ev) :
    Calls Tryd.prog 20 #[.int .i64 6, .string t] w fun e w' => ∃ (n : Nat) (s : ByteArray), e = .returned (.tuple #[.agg #[(.int .i64 6), (.bool false), (.int .i64 0), (.int .u64 0), (.int .u64 0), (.string ⟨#[]⟩), (.int .i64 0), (.bool false), (.bool false), (.int .i64 0), (.int .i64 0)], .int .i64 n, .string s]) ∧ n ≤ t.size ∧ s.data.toList ≠ [] ∧ Below w.heap.size w w' := by
  have kc := conv_bytes
  have HT := Lib.hid (And.intro ht (And.intro he hB))
  have HY := Lib.hid hR
  clear ht he hB hR
  go_enter Tryd.func20, Tryd.ntmps20
  go_wp2_with (first
    | (go_at_call 45; go_loud (refine (newRd_any (w.alloc (.cells (zv 0) 26)) (w.heap.size + 1) (World.size_alloc ..) t HT.out.1).mono ?_; rintro e_ w1 ⟨r, rfl, hr1, hr2, hr3⟩; obtain ⟨hs1, hs2, hs3, hs4⟩ := dv_start (b := 0) HT.out.2.2 HT.out.2.1 hr2 hr3; have y0 : w1.cell? ⟨w.heap.size, 0, none⟩ = some (.int .i64 0) := (blk_cell hs1 0).trans rfl; have g0 : w1.frozen? ⟨w.heap.size, 0, none⟩ = false := blk_frozen hs1 0; have HS := Lib.hid (And.intro hr1 (And.intro hs1 (And.intro hs2 (And.intro hs3 hs4)))); have HR3 := Lib.hid hr3; clear hr1 hr2 hr3 hs1 hs2 hs3 hs4))
    | (go_at_call 53; go_loud (refine (HY.out r (w.heap.size + 1) _ ?rd ?en HS.out.2.2.2.2 ?sz).mono ?_; (case rd => exact (HS.out.1.set _ _ (by have := HR3.out; show w.heap.size ≠ r; omega) (by show w.heap.size ≠ w.heap.size + 1; omega)).alloc _); (case en => exact HS.out.2.2.1.below (((Below.refl _ _).setCell (by exact HT.out.2.2) _).alloc (by have := HS.out.1.lt; have := HS.out.2.2.2.2; simp [World.setCell]; omega) _)); (case sz => have := HS.out.1.lt; have := HS.out.2.2.2.2; simp [World.setCell]; omega); rintro e_ w2 ⟨ev, rfl, hg, hev, i', hrd⟩; obtain ⟨ea, es, rfl, hea, hes⟩ := hev; have HEA := Lib.hid (And.intro hea hes); have hb2 : w2.heap[w.heap.size]? = some (.cells (zv 6) 26 (0, 0)) := (hg.block _ (by have := blk_lt HS.out.2.1; simp [World.setCell]; omega) (by have := HR3.out; intro e; cases e; omega)).trans ((Below.heap_alloc _ _ _ (by have := blk_lt HS.out.2.1; simpa [World.setCell] using this)).trans ((Lib.heap_setCell_same (i := 0) HS.out.2.1 (.int .i64 6)).trans rfl)); have c0 : w2.cell? ⟨w.heap.size, 0, none⟩ = some (.int .i64 6) := (blk_cell hb2 0).trans rfl; have f0 : w2.frozen? ⟨w.heap.size, 0, none⟩ = false := blk_frozen hb2 0; have c1 : w2.cell? ⟨w.heap.size, 1, none⟩ = some (.bool false) := (blk_cell hb2 1).trans rfl; have f1 : w2.frozen? ⟨w.heap.size, 1, none⟩ = false := blk_frozen hb2 1; have c2 : w2.cell? ⟨w.heap.size, 2, none⟩ = some (.int .i64 0) := (blk_cell hb2 2).trans rfl; have f2 : w2.frozen? ⟨w.heap.size, 2, none⟩ = false := blk_frozen hb2 2; have c3 : w2.cell? ⟨w.heap.size, 3, none⟩ = some (.int .u64 0) := (blk_cell hb2 3).trans rfl; have f3 : w2.frozen? ⟨w.heap.size, 3, none⟩ = false := blk_frozen hb2 3; have c4 : w2.cell? ⟨w.heap.size, 4, none⟩ = some (.int .u64 0) := (blk_cell hb2 4).trans rfl; have f4 : w2.frozen? ⟨w.heap.size, 4, none⟩ = false := blk_frozen hb2 4; have c5 : w2.cell? ⟨w.heap.size, 5, none⟩ = some (.string ⟨#[]⟩) := (blk_cell hb2 5).trans rfl; have f5 : w2.frozen? ⟨w.heap.size, 5, none⟩ = false := blk_frozen hb2 5; have c6 : w2.cell? ⟨w.heap.size, 6, none⟩ = some (.int .i64 0) := (blk_cell hb2 6).trans rfl; have f6 : w2.frozen? ⟨w.heap.size, 6, none⟩ = false := blk_frozen hb2 6; have c7 : w2.cell? ⟨w.heap.size, 7, none⟩ = some (.bool false) := (blk_cell hb2 7).trans rfl; have f7 : w2.frozen? ⟨w.heap.size, 7, none⟩ = false := blk_frozen hb2 7; have c8 : w2.cell? ⟨w.heap.size, 8, none⟩ = some (.bool false) := (blk_cell hb2 8).trans rfl; have f8 : w2.frozen? ⟨w.heap.size, 8, none⟩ = false := blk_frozen hb2 8; have c9 : w2.cell? ⟨w.heap.size, 9, none⟩ = some (.int .i64 0) := (blk_cell hb2 9).trans rfl; have f9 : w2.frozen? ⟨w.heap.size, 9, none⟩ = false := blk_frozen hb2 9; have c10 : w2.cell? ⟨w.heap.size, 10, none⟩ = some (.int .i64 0) := (blk_cell hb2 10).trans rfl; have f10 : w2.frozen? ⟨w.heap.size, 10, none⟩ = false := blk_frozen hb2 10; have hsb : w2.heap[w1.heap.size]? = some (.cells zP 100 (0, 0)) := (hg.block _ (by simp [World.setCell]) (by have := HS.out.1.lt; intro e; cases e; omega)).trans (by have := heap_alloc_new (w1.setCell ⟨w.heap.size, 0, none⟩ (.int .i64 6)) (.cells zP 100); simpa [World.setCell] using this); have s0 : w2.cell? ⟨w1.heap.size, 0, none⟩ = some (.int .u8 0) := (blk_cell hsb 0).trans rfl; have t0 : w2.frozen? ⟨w1.heap.size, 0, none⟩ = false := blk_frozen hsb 0; have s1 : w2.cell? ⟨w1.heap.size, 1, none⟩ = some (.bool false) := (blk_cell hsb 1).trans rfl; have t1 : w2.frozen? ⟨w1.heap.size, 1, none⟩ = false := blk_frozen hsb 1; have s2 : w2.cell? ⟨w1.heap.size, 2, none⟩ = some (.bool false) := (blk_cell hsb 2).trans rfl; have t2 : w2.frozen? ⟨w1.heap.size, 2, none⟩ = false := blk_frozen hsb 2; have s3 : w2.cell? ⟨w1.heap.size, 3, none⟩ = some (.int .i64 0) := (blk_cell hsb 3).trans rfl; have t3 : w2.frozen? ⟨w1.heap.size, 3, none⟩ = false := blk_frozen hsb 3; have s4 : w2.cell? ⟨w1.heap.size, 4, none⟩ = some (.int .i64 0) := (blk_cell hsb 4).trans rfl; have t4 : w2.frozen? ⟨w1.heap.size, 4, none⟩ = false := blk_frozen hsb 4; have HSB := Lib.hid hsb; clear hsb; have HB0 := Lib.hid hb2; have HG := Lib.hid hg; have HD := Lib.hid hrd; clear hea hes hg hrd hb2))
    | (go_at_call 54; go_loud (refine (backPane_any 0 false false 0 0 (by decide) _).mono ?_; rintro e_ w3 ⟨rfl, hb3⟩; clear c0 f0 c1 f1 c2 f2 c3 f3 c4 f4 c5 f5 c6 f6 c7 f7 c8 f8 c9 f9 c10 f10 s0 t0 s1 t1 s2 t2 s3 t3 s4 t4; have hk3 : ∀ k, k < w2.heap.size → k ≠ w1.heap.size → w3.heap[k]? = w2.heap[k]? := (fun k hk hn => (hb3.block k (by simpa [World.setCell] using hk)).trans ((Below.heap_setCell _ _ _ _ hn).trans ((Below.heap_setCell _ _ _ _ hn).trans ((Below.heap_setCell _ _ _ _ hn).trans ((Below.heap_setCell _ _ _ _ hn).trans (Below.heap_setCell _ _ _ _ hn)))))); have hb3b : w3.heap[w.heap.size]? = some (.cells (zv 6) 26 (0, 0)) := (hk3 _ (blk_lt HB0.out) (by have := HS.out.1.lt; have := HR3.out; omega)).trans HB0.out; have c0 : w3.cell? ⟨w.heap.size, 0, none⟩ = some (.int .i64 6) := (blk_cell hb3b 0).trans rfl; have f0 : w3.frozen? ⟨w.heap.size, 0, none⟩ = false := blk_frozen hb3b 0; have c1 : w3.cell? ⟨w.heap.size, 1, none⟩ = some (.bool false) := (blk_cell hb3b 1).trans rfl; have f1 : w3.frozen? ⟨w.heap.size, 1, none⟩ = false := blk_frozen hb3b 1; have c2 : w3.cell? ⟨w.heap.size, 2, none⟩ = some (.int .i64 0) := (blk_cell hb3b 2).trans rfl; have f2 : w3.frozen? ⟨w.heap.size, 2, none⟩ = false := blk_frozen hb3b 2; have c3 : w3.cell? ⟨w.heap.size, 3, none⟩ = some (.int .u64 0) := (blk_cell hb3b 3).trans rfl; have f3 : w3.frozen? ⟨w.heap.size, 3, none⟩ = false := blk_frozen hb3b 3; have c4 : w3.cell? ⟨w.heap.size, 4, none⟩ = some (.int .u64 0) := (blk_cell hb3b 4).trans rfl; have f4 : w3.frozen? ⟨w.heap.size, 4, none⟩ = false := blk_frozen hb3b 4; have c5 : w3.cell? ⟨w.heap.size, 5, none⟩ = some (.string ⟨#[]⟩) := (blk_cell hb3b 5).trans rfl; have f5 : w3.frozen? ⟨w.heap.size, 5, none⟩ = false := blk_frozen hb3b 5; have c6 : w3.cell? ⟨w.heap.size, 6, none⟩ = some (.int .i64 0) := (blk_cell hb3b 6).trans rfl; have f6 : w3.frozen? ⟨w.heap.size, 6, none⟩ = false := blk_frozen hb3b 6; have c7 : w3.cell? ⟨w.heap.size, 7, none⟩ = some (.bool false) := (blk_cell hb3b 7).trans rfl; have f7 : w3.frozen? ⟨w.heap.size, 7, none⟩ = false := blk_frozen hb3b 7; have c8 : w3.cell? ⟨w.heap.size, 8, none⟩ = some (.bool false) := (blk_cell hb3b 8).trans rfl; have f8 : w3.frozen? ⟨w.heap.size, 8, none⟩ = false := blk_frozen hb3b 8; have c9 : w3.cell? ⟨w.heap.size, 9, none⟩ = some (.int .i64 0) := (blk_cell hb3b 9).trans rfl; have f9 : w3.frozen? ⟨w.heap.size, 9, none⟩ = false := blk_frozen hb3b 9; have c10 : w3.cell? ⟨w.heap.size, 10, none⟩ = some (.int .i64 0) := (blk_cell hb3b 10).trans rfl; have f10 : w3.frozen? ⟨w.heap.size, 10, none⟩ = false := blk_frozen hb3b 10; have HB3 := Lib.hid hb3b; have HD3 := Lib.hid ((((((HD.out.set ⟨w1.heap.size, 0, none⟩ (.int .u8 0) (by have := HS.out.1.lt; have := HR3.out; show w1.heap.size ≠ r; omega) (by have := HS.out.1.ltg; show w1.heap.size ≠ w.heap.size + 1; omega)).set ⟨w1.heap.size, 1, none⟩ (.bool false) (by have := HS.out.1.lt; have := HR3.out; show w1.heap.size ≠ r; omega) (by have := HS.out.1.ltg; show w1.heap.size ≠ w.heap.size + 1; omega)).set ⟨w1.heap.size, 2, none⟩ (.bool false) (by have := HS.out.1.lt; have := HR3.out; show w1.heap.size ≠ r; omega) (by have := HS.out.1.ltg; show w1.heap.size ≠ w.heap.size + 1; omega)).set ⟨w1.heap.size, 3, none⟩ (.int .i64 0) (by have := HS.out.1.lt; have := HR3.out; show w1.heap.size ≠ r; omega) (by have := HS.out.1.ltg; show w1.heap.size ≠ w.heap.size + 1; omega)).set ⟨w1.heap.size, 4, none⟩ (.int .i64 0) (by have := HS.out.1.lt; have := HR3.out; show w1.heap.size ≠ r; omega) (by have := HS.out.1.ltg; show w1.heap.size ≠ w.heap.size + 1; omega)).below hb3); have HBW := Lib.hid (((((((((HS.out.2.2.2.1.setCell (p := ⟨w.heap.size, 0, none⟩) (Nat.le_refl _) (.int .i64 6)).alloc (by have := HS.out.2.2.2.1.size; simpa [World.setCell] using this) (.cells zP 100)).trans (grown_below HG.out (by have := HS.out.2.2.2.1.size; simp [World.setCell]; omega) (by have := HR3.out; omega))).setCell (p := ⟨w1.heap.size, 0, none⟩) HS.out.2.2.2.1.size (.int .u8 0)).setCell (p := ⟨w1.heap.size, 1, none⟩) HS.out.2.2.2.1.size (.bool false)).setCell (p := ⟨w1.heap.size, 2, none⟩) HS.out.2.2.2.1.size (.bool false)).setCell (p := ⟨w1.heap.size, 3, none⟩) HS.out.2.2.2.1.size (.int .i64 0)).setCell (p := ⟨w1.heap.size, 4, none⟩) HS.out.2.2.2.1.size (.int .i64 0)).trans (hb3.mono (by have h := HG.out.size; have h2 := HS.out.2.2.2.1.size; simp only [World.size_setCell, World.size_alloc] at h ⊢; clear hb3; omega))); have HEA3 := Lib.hid (show w3.cell? ea = some (.string es) from (World.cell?_of_block (a := ea) ((hb3.block _ (by have := World.block_lt_of_cell? _ _ HEA.out.1; simpa [World.setCell] using this)).trans (zp_same HSB.out _))).trans HEA.out.1); clear hb3 hk3 hb3b)))
  obtain ⟨W, hW⟩ : ∃ W, W = w3.setCells w.heap.size 6 [(.int .i64 0), (.bool false), (.bool false), (.int .i64 0), (.int .i64 0)] := ⟨_, rfl⟩
  simp only [World.setCells] at hW
  have HB2 := Lib.hid (show W.heap[w.heap.size]? = some (.cells #[(.int .i64 6), (.bool false), (.int .i64 0), (.int .u64 0), (.int .u64 0), (.string ⟨#[]⟩), (.int .i64 0), (.bool false), (.bool false), (.int .i64 0), (.int .i64 0)] 26 (0, 0)) by
    rw [hW]; exact (Lib.heap_setCell_same (i := 10) (Lib.heap_setCell_same (i := 9) (Lib.heap_setCell_same (i := 8) (Lib.heap_setCell_same (i := 7) (Lib.heap_setCell_same (i := 6) HB3.out (.int .i64 0)) (.bool false)) (.bool false)) (.int .i64 0)) (.int .i64 0)).trans rfl)
  have HD2 := Lib.hid (show Rd r (w.heap.size + 1) t.data.toList i' W by
    rw [hW]; exact (((((HD3.out.set ⟨w.heap.size, 6, none⟩ (.int .i64 0) (by have := HR3.out; show w.heap.size ≠ r; omega) (by show w.heap.size ≠ w.heap.size + 1; omega)).set ⟨w.heap.size, 7, none⟩ (.bool false) (by have := HR3.out; show w.heap.size ≠ r; omega) (by show w.heap.size ≠ w.heap.size + 1; omega)).set ⟨w.heap.size, 8, none⟩ (.bool false) (by have := HR3.out; show w.heap.size ≠ r; omega) (by show w.heap.size ≠ w.heap.size + 1; omega)).set ⟨w.heap.size, 9, none⟩ (.int .i64 0) (by have := HR3.out; show w.heap.size ≠ r; omega) (by show w.heap.size ≠ w.heap.size + 1; omega)).set ⟨w.heap.size, 10, none⟩ (.int .i64 0) (by have := HR3.out; show w.heap.size ≠ r; omega) (by show w.heap.size ≠ w.heap.size + 1; omega)))
  have HEW := Lib.hid (show W.cell? ea = some (.string es) by
    rw [hW]; exact (World.cell?_of_block (a := ea) (zv6_same HB3.out _)).trans HEA3.out)
  have HBW2 := Lib.hid (show Below w.heap.size w W by rw [hW]; exact (((((HBW.out.setCell (p := ⟨w.heap.size, 6, none⟩) (Nat.le_refl _) (.int .i64 0)).setCell (p := ⟨w.heap.size, 7, none⟩) (Nat.le_refl _) (.bool false)).setCell (p := ⟨w.heap.size, 8, none⟩) (Nat.le_refl _) (.bool false)).setCell (p := ⟨w.heap.size, 9, none⟩) (Nat.le_refl _) (.int .i64 0)).setCell (p := ⟨w.heap.size, 10, none⟩) (Nat.le_refl _) (.int .i64 0)))
  rw [← hW]
  have HW := Lib.hid hW
  clear hW c0 f0 c1 f1 c2 f2 c3 f3 c4 f4 c5 f5 c6 f6 c7 f7 c8 f8 c9 f9 c10 f10
  have c0 : W.cell? ⟨w.heap.size, 0, none⟩ = some (.int .i64 6) := (blk_cell HB2.out 0).trans rfl
  have f0 : W.frozen? ⟨w.heap.size, 0, none⟩ = false := blk_frozen HB2.out 0
  have c1 : W.cell? ⟨w.heap.size, 1, none⟩ = some (.bool false) := (blk_cell HB2.out 1).trans rfl
  have f1 : W.frozen? ⟨w.heap.size, 1, none⟩ = false := blk_frozen HB2.out 1
  have c2 : W.cell? ⟨w.heap.size, 2, none⟩ = some (.int .i64 0) := (blk_cell HB2.out 2).trans rfl
  have f2 : W.frozen? ⟨w.heap.size, 2, none⟩ = false := blk_frozen HB2.out 2
  have c3 : W.cell? ⟨w.heap.size, 3, none⟩ = some (.int .u64 0) := (blk_cell HB2.out 3).trans rfl
  have f3 : W.frozen? ⟨w.heap.size, 3, none⟩ = false := blk_frozen HB2.out 3
  have c4 : W.cell? ⟨w.heap.size, 4, none⟩ = some (.int .u64 0) := (blk_cell HB2.out 4).trans rfl
  have f4 : W.frozen? ⟨w.heap.size, 4, none⟩ = false := blk_frozen HB2.out 4
  have c5 : W.cell? ⟨w.heap.size, 5, none⟩ = some (.string ⟨#[]⟩) := (blk_cell HB2.out 5).trans rfl
  have f5 : W.frozen? ⟨w.heap.size, 5, none⟩ = false := blk_frozen HB2.out 5
  have c6 : W.cell? ⟨w.heap.size, 6, none⟩ = some (.int .i64 0) := (blk_cell HB2.out 6).trans rfl
  have f6 : W.frozen? ⟨w.heap.size, 6, none⟩ = false := blk_frozen HB2.out 6
  have c7 : W.cell? ⟨w.heap.size, 7, none⟩ = some (.bool false) := (blk_cell HB2.out 7).trans rfl
  have f7 : W.frozen? ⟨w.heap.size, 7, none⟩ = false := blk_frozen HB2.out 7
  have c8 : W.cell? ⟨w.heap.size, 8, none⟩ = some (.bool false) := (blk_cell HB2.out 8).trans rfl
  have f8 : W.frozen? ⟨w.heap.size, 8, none⟩ = false := blk_frozen HB2.out 8
  have c9 : W.cell? ⟨w.heap.size, 9, none⟩ = some (.int .i64 0) := (blk_cell HB2.out 9).trans rfl
  have f9 : W.frozen? ⟨w.heap.size, 9, none⟩ = false := blk_frozen HB2.out 9
  have c10 : W.cell? ⟨w.heap.size, 10, none⟩ = some (.int .i64 0) := (blk_cell HB2.out 10).trans rfl
  have f10 : W.frozen? ⟨w.heap.size, 10, none⟩ = false := blk_frozen HB2.out 10
  have qs : (t.size : Int) - ((t.data.toList.length - i' : Nat) : Int) = (i' : Nat) := by
    have h1 := HD2.out.le
    have h2 : t.data.toList.length = t.size := by rw [Array.length_toList]; rfl
    omega
  have qs2 : IntKind.i64.wrap ((i' : Nat) : Int) = (i' : Nat) := IntWalk.i64_in _ (by have := HD2.out.le; have := HD2.out.len; omega)
  obtain ⟨L, hL⟩ : ∃ L, Hid (t.data.toList.length - i' = L) := ⟨_, Lib.hid rfl⟩
  rw [hL.out] at qs
  clear HB0 HB3 HD HD3 HG HSB HBW HW HR3 HS HT HY HEA3
  go_region_with (first | (go_at_call 62; refine (len_any r (w.heap.size + 1) t.data.toList i' _ ?rd).mono ?_; (case rd => exact HD2.out.drewN 1); rw [hL.out]; rintro e_ w4 ⟨rfl, q4, rfl⟩) | (go_at_call 63; refine (word_err ea es _ ?wd).mono ?_; (case wd => exact HEW.out); rintro e_ w5 ⟨rfl, rfl⟩))
  all_goals
    refine (by assumption : ∀ (a : Act) (w : World), Code.wp _ Code.ret _ a w → _) _ _ ?_
    go_wp2
    obtain ⟨X, hX⟩ : ∃ X, X = (W.drewN (1 + q4)).setCells w.heap.size 0 [(.int .i64 6), (.bool false), (.int .i64 0), (.int .u64 0), (.int .u64 0), (.string ⟨#[]⟩), (.int .i64 0), (.bool false), (.bool false), (.int .i64 0), (.int .i64 0)] := ⟨_, rfl⟩
    have hXb : X.heap[w.heap.size]? = some (.cells #[(.int .i64 6), (.bool false), (.int .i64 0), (.int .u64 0), (.int .u64 0), (.string ⟨#[]⟩), (.int .i64 0), (.bool false), (.bool false), (.int .i64 0), (.int .i64 0)] 26 (0, 0)) := by
      rw [hX]; exact setCells_self _ _ _ _ _ 0 (W.drewN (1 + q4)) HB2.out (fun j v hj => by rw [Nat.zero_add]; simpa using hj)
    have hXw : Below w.heap.size w X := by
      rw [hX]
      exact (below_drewN HBW2.out (1 + q4)).trans (Lib.below_setCells_w (Nat.le_refl _) _ _ _)
    simp only [World.setCells] at hX
    rw [← hX]
    have HX := Lib.hid hXw
    clear hX hXw c0 f0 c1 f1 c2 f2 c3 f3 c4 f4 c5 f5 c6 f6 c7 f7 c8 f8 c9 f9 c10 f10
    have c0 : X.cell? ⟨w.heap.size, 0, none⟩ = some (.int .i64 6) := (blk_cell hXb 0).trans rfl
    have c1 : X.cell? ⟨w.heap.size, 1, none⟩ = some (.bool false) := (blk_cell hXb 1).trans rfl
    have c2 : X.cell? ⟨w.heap.size, 2, none⟩ = some (.int .i64 0) := (blk_cell hXb 2).trans rfl
    have c3 : X.cell? ⟨w.heap.size, 3, none⟩ = some (.int .u64 0) := (blk_cell hXb 3).trans rfl
    have c4 : X.cell? ⟨w.heap.size, 4, none⟩ = some (.int .u64 0) := (blk_cell hXb 4).trans rfl
    have c5 : X.cell? ⟨w.heap.size, 5, none⟩ = some (.string ⟨#[]⟩) := (blk_cell hXb 5).trans rfl
    have c6 : X.cell? ⟨w.heap.size, 6, none⟩ = some (.int .i64 0) := (blk_cell hXb 6).trans rfl
    have c7 : X.cell? ⟨w.heap.size, 7, none⟩ = some (.bool false) := (blk_cell hXb 7).trans rfl
    have c8 : X.cell? ⟨w.heap.size, 8, none⟩ = some (.bool false) := (blk_cell hXb 8).trans rfl
    have c9 : X.cell? ⟨w.heap.size, 9, none⟩ = some (.int .i64 0) := (blk_cell hXb 9).trans rfl
    have c10 : X.cell? ⟨w.heap.size, 10, none⟩ = some (.int .i64 0) := (blk_cell hXb 10).trans rfl
    clear hXb
    refine bodyPost_ret (v := .tuple #[.agg #[(.int .i64 6), (.bool false), (.int .i64 0), (.int .u64 0), (.int .u64 0), (.string ⟨#[]⟩), (.int .i64 0), (.bool false), (.bool false), (.int .i64 0), (.int .i64 0)], .int .i64 (i' : Nat), .string es]) (by simp [results, Tryd.results20, go_sem, c0, c1, c2, c3, c4, c5, c6, c7, c8, c9, c10]; try rfl) rfl ⟨i', es, rfl, by have := HD2.out.le; have h2 : t.data.toList.length = t.size := (by rw [Array.length_toList]; rfl); omega, HEA.out.2, HX.out⟩
end Go.Proofs.YtgdbeiadlgkedaaDoor
