/- The walks of the statement on a pane's byte. -/
import Derived.Test.YtgdbeiadlgkedaaDoorL4
namespace Go.Proofs.YtgdbeiadlgkedaaDoor
open Go.RowKit
set_option linter.unusedVariables false
set_option linter.unusedSimpArgs false

theorem and1 (b : Nat) (h : b < 256) : bits .and .u8 (b : Int) 1 = ((b % 2 : Nat) : Int) := by
  have : ∀ b : Fin 256, bits .and .u8 ((b : Nat) : Int) 1 = (((b : Nat) % 2 : Nat) : Int) := by decide +kernel
  exact this ⟨b, h⟩
theorem and2 (b : Nat) (h : b < 256) : bits .and .u8 (b : Int) 2 = ((b / 2 % 2 * 2 : Nat) : Int) := by
  have : ∀ b : Fin 256, bits .and .u8 ((b : Nat) : Int) 2 = (((b : Nat) / 2 % 2 * 2 : Nat) : Int) := by decide +kernel
  exact this ⟨b, h⟩
theorem and3 (b : Nat) (h : b < 256) : bits .and .u8 (b : Int) 3 = ((b % 4 : Nat) : Int) := by
  have : ∀ b : Fin 256, bits .and .u8 ((b : Nat) : Int) 3 = (((b : Nat) % 4 : Nat) : Int) := by decide +kernel
  exact this ⟨b, h⟩
set_option maxHeartbeats 4000000 in
set_option maxRecDepth 100000 in
theorem noPane_any (w : World) :
    Calls Tryd.prog 107 #[] w fun e w' => e = .returned (.agg #[.int .u8 3, .bool true, .bool true, .int .i64 0, .int .i64 0]) ∧ Below w.heap.size w w' := by
  go_enter Tryd.func107, Tryd.ntmps107
  go_wp2
  obtain ⟨X, hX⟩ : ∃ X, X = w.alloc (.cells #[.int .u8 3, .bool true, .bool true, .int .i64 0, .int .i64 0] 100) := ⟨_, rfl⟩
  have hb : X.heap[w.heap.size]? = some (.cells #[.int .u8 3, .bool true, .bool true, .int .i64 0, .int .i64 0] 100 (0, 0)) := by rw [hX]; exact heap_alloc_new w _
  have HX := Lib.hid (show Below w.heap.size w X by rw [hX]; exact (Below.refl _ w).alloc (Nat.le_refl _) _)
  rw [← hX]
  clear hX
  have c0 : X.cell? ⟨w.heap.size, 0, none⟩ = some (.int .u8 3) := (blk_cell hb 0).trans rfl
  have c1 : X.cell? ⟨w.heap.size, 1, none⟩ = some (.bool true) := (blk_cell hb 1).trans rfl
  have c2 : X.cell? ⟨w.heap.size, 2, none⟩ = some (.bool true) := (blk_cell hb 2).trans rfl
  have c3 : X.cell? ⟨w.heap.size, 3, none⟩ = some (.int .i64 0) := (blk_cell hb 3).trans rfl
  have c4 : X.cell? ⟨w.heap.size, 4, none⟩ = some (.int .i64 0) := (blk_cell hb 4).trans rfl
  clear hb
  exact bodyPost_ret (v := .agg #[.int .u8 3, .bool true, .bool true, .int .i64 0, .int .i64 0]) (by simp [results, Tryd.results107, go_sem, c0, c1, c2, c3, c4]; try rfl) rfl ⟨rfl, HX.out⟩
set_option maxHeartbeats 4000000 in
set_option maxRecDepth 100000 in
theorem backPane_any (t : Nat) (f l : Bool) (i n : Int) (ht : t < 256) (w : World) :
    Calls Tryd.prog 54 #[.agg #[.int .u8 t, .bool f, .bool l, .int .i64 i, .int .i64 n]] w fun e w' => e = .returned (.agg #[.int .i64 t, .bool f, .bool l, .int .i64 i, .int .i64 n]) ∧ Below w.heap.size w w' := by
  have q1 : IntKind.i64.wrap (t : Int) = (t : Int) := IntWalk.i64_in _ (by omega)
  have q2 : wrap64 (t : Int) = (t : Int) := IntWalk.wrap64_in _ (by omega)
  clear ht
  go_enter Tryd.func54, Tryd.ntmps54
  go_wp2
  obtain ⟨X, hX⟩ : ∃ X, X = (w.alloc (.cells #[.int .u8 t, .bool f, .bool l, .int .i64 i, .int .i64 n] 100)).alloc (.cells #[.int .i64 t, .bool f, .bool l, .int .i64 i, .int .i64 n] 24) := ⟨_, rfl⟩
  have hb : X.heap[w.heap.size + 1]? = some (.cells #[.int .i64 t, .bool f, .bool l, .int .i64 i, .int .i64 n] 24 (0, 0)) := by rw [hX]; have := heap_alloc_new (w.alloc (.cells #[.int .u8 t, .bool f, .bool l, .int .i64 i, .int .i64 n] 100)) (.cells #[.int .i64 t, .bool f, .bool l, .int .i64 i, .int .i64 n] 24); rwa [World.size_alloc] at this
  have HX := Lib.hid (show Below w.heap.size w X by rw [hX]; exact ((Below.refl _ w).alloc (Nat.le_refl _) _).alloc (by rw [World.size_alloc]; omega) _)
  rw [← hX]
  clear hX
  have c0 : X.cell? ⟨w.heap.size + 1, 0, none⟩ = some (.int .i64 t) := (blk_cell hb 0).trans rfl
  have c1 : X.cell? ⟨w.heap.size + 1, 1, none⟩ = some (.bool f) := (blk_cell hb 1).trans rfl
  have c2 : X.cell? ⟨w.heap.size + 1, 2, none⟩ = some (.bool l) := (blk_cell hb 2).trans rfl
  have c3 : X.cell? ⟨w.heap.size + 1, 3, none⟩ = some (.int .i64 i) := (blk_cell hb 3).trans rfl
  have c4 : X.cell? ⟨w.heap.size + 1, 4, none⟩ = some (.int .i64 n) := (blk_cell hb 4).trans rfl
  clear hb
  exact bodyPost_ret (v := .agg #[.int .i64 t, .bool f, .bool l, .int .i64 i, .int .i64 n]) (by simp [results, Tryd.results54, go_sem, c0, c1, c2, c3, c4]; try rfl) rfl ⟨rfl, HX.out⟩
theorem set5 {W : World} {b : Nat} {a0 a1 a2 a3 a4 : Value} {T : TypeId} {fr : Nat × Nat} (h : W.heap[b]? = some (.cells #[a0, a1, a2, a3, a4] T fr)) (v0 v1 v2 v3 v4 : Value) :
    (((((W.setCell ⟨b, 0, none⟩ v0).setCell ⟨b, 1, none⟩ v1).setCell ⟨b, 2, none⟩ v2).setCell ⟨b, 3, none⟩ v3).setCell ⟨b, 4, none⟩ v4).heap[b]? = some (.cells #[v0, v1, v2, v3, v4] T fr) := by
  have h0 : (W.setCell ⟨b, 0, none⟩ v0).heap[b]? = some (.cells #[v0, a1, a2, a3, a4] T fr) := (Lib.heap_setCell_same (i := 0) h v0).trans rfl
  have h1 : ((W.setCell ⟨b, 0, none⟩ v0).setCell ⟨b, 1, none⟩ v1).heap[b]? = some (.cells #[v0, v1, a2, a3, a4] T fr) := (Lib.heap_setCell_same (i := 1) h0 v1).trans rfl
  have h2 : (((W.setCell ⟨b, 0, none⟩ v0).setCell ⟨b, 1, none⟩ v1).setCell ⟨b, 2, none⟩ v2).heap[b]? = some (.cells #[v0, v1, v2, a3, a4] T fr) := (Lib.heap_setCell_same (i := 2) h1 v2).trans rfl
  have h3 : ((((W.setCell ⟨b, 0, none⟩ v0).setCell ⟨b, 1, none⟩ v1).setCell ⟨b, 2, none⟩ v2).setCell ⟨b, 3, none⟩ v3).heap[b]? = some (.cells #[v0, v1, v2, v3, a4] T fr) := (Lib.heap_setCell_same (i := 3) h2 v3).trans rfl
  exact (Lib.heap_setCell_same (i := 4) h3 v4).trans rfl
theorem set5_below {W : World} {b B : Nat} (hb : B ≤ b) (v0 v1 v2 v3 v4 : Value) :
    Below B W (((((W.setCell ⟨b, 0, none⟩ v0).setCell ⟨b, 1, none⟩ v1).setCell ⟨b, 2, none⟩ v2).setCell ⟨b, 3, none⟩ v3).setCell ⟨b, 4, none⟩ v4) :=
  (((((Below.refl B W).setCell (p := ⟨b, 0, none⟩) hb v0).setCell (p := ⟨b, 1, none⟩) hb v1).setCell (p := ⟨b, 2, none⟩) hb v2).setCell (p := ⟨b, 3, none⟩) hb v3).setCell (p := ⟨b, 4, none⟩) hb v4
theorem laid5 {X : World} {b : Nat} {v0 v1 v2 v3 v4 : Value} {T : TypeId} (h : X.heap[b]? = some (.cells #[v0, v1, v2, v3, v4] T (0, 0))) :
    X.cell? ⟨b, 0, none⟩ = some v0 ∧ X.cell? ⟨b, 1, none⟩ = some v1 ∧ X.cell? ⟨b, 2, none⟩ = some v2 ∧ X.cell? ⟨b, 3, none⟩ = some v3 ∧ X.cell? ⟨b, 4, none⟩ = some v4 :=
  ⟨(blk_cell h 0).trans rfl, (blk_cell h 1).trans rfl, (blk_cell h 2).trans rfl, (blk_cell h 3).trans rfl, (blk_cell h 4).trans rfl⟩
theorem open5 {X : World} {b : Nat} {v0 v1 v2 v3 v4 : Value} {T : TypeId} (h : X.heap[b]? = some (.cells #[v0, v1, v2, v3, v4] T (0, 0))) :
    X.frozen? ⟨b, 0, none⟩ = false ∧ X.frozen? ⟨b, 1, none⟩ = false ∧ X.frozen? ⟨b, 2, none⟩ = false ∧ X.frozen? ⟨b, 3, none⟩ = false ∧ X.frozen? ⟨b, 4, none⟩ = false :=
  ⟨blk_frozen h 0, blk_frozen h 1, blk_frozen h 2, blk_frozen h 3, blk_frozen h 4⟩
set_option maxHeartbeats 4000000 in
set_option maxRecDepth 100000 in
theorem newPane_any (b : Nat) (hb : b < 256) (w : World) :
    Calls Tryd.prog 86 #[.int .u8 b] w fun e w' => e = .returned (.agg #[.int .u8 (b / 4 % 4 : Nat), .bool (b % 2 = 1), .bool (b / 2 % 2 = 1), .int .i64 0, .int .i64 0]) ∧ Below w.heap.size w w' := by
  have a1 := and1 b hb
  have a2 := and2 b hb
  obtain ⟨q, hq⟩ : ∃ q, Hid (b / 4 = q) := ⟨_, Lib.hid rfl⟩
  have a0 : (b : Int) / 4 = (q : Int) := by have := hq.out; omega
  have a3 := and3 q (by have := hq.out; omega)
  obtain ⟨y, hy⟩ : ∃ y, Hid (q % 4 = y) := ⟨_, Lib.hid rfl⟩
  rw [hy.out] at a3
  rw [hq.out, hy.out]
  clear hb
  have e2 : ∀ x, x % 2 = 1 ∨ x % 2 = 0 := fun x => by omega
  rcases e2 b with h1 | h1 <;> rcases e2 (b / 2) with h2 | h2 <;> rw [h1] at a1 <;> rw [h2] at a2 <;> simp only [h1, h2, decide_true, show decide ((0 : Nat) = 1) = false from rfl]
  · go_enter Tryd.func86, Tryd.ntmps86
    go_wp2_with (go_at_call 107; go_loud (refine (noPane_any _).mono ?_; rintro e_ w1 ⟨rfl, hb1⟩; have hz := (hb1.block _ (by rw [World.size_alloc]; omega)).trans (heap_alloc_new w _); have HB1 := Lib.hid (((Below.refl _ w).alloc (Nat.le_refl _) _).trans (hb1.mono (by simp))); have hlt := blk_lt hz; have hzz : ∀ o, (w1.alloc o).heap[w.heap.size]? = _ := fun o => (((Below.refl w1.heap.size w1).alloc (Nat.le_refl _) o).block _ hlt).trans hz; obtain ⟨x0, x1, x2, x3, x4⟩ := (⟨fun o => (laid5 (hzz o)).1, fun o => (laid5 (hzz o)).2.1, fun o => (laid5 (hzz o)).2.2.1, fun o => (laid5 (hzz o)).2.2.2.1, fun o => (laid5 (hzz o)).2.2.2.2⟩ : (∀ o, (w1.alloc o).cell? ⟨w.heap.size, 0, none⟩ = _) ∧ (∀ o, (w1.alloc o).cell? ⟨w.heap.size, 1, none⟩ = _) ∧ (∀ o, (w1.alloc o).cell? ⟨w.heap.size, 2, none⟩ = _) ∧ (∀ o, (w1.alloc o).cell? ⟨w.heap.size, 3, none⟩ = _) ∧ (∀ o, (w1.alloc o).cell? ⟨w.heap.size, 4, none⟩ = _)); obtain ⟨y0, y1, y2, y3, y4⟩ := (⟨fun o => (open5 (hzz o)).1, fun o => (open5 (hzz o)).2.1, fun o => (open5 (hzz o)).2.2.1, fun o => (open5 (hzz o)).2.2.2.1, fun o => (open5 (hzz o)).2.2.2.2⟩ : (∀ o, (w1.alloc o).frozen? ⟨w.heap.size, 0, none⟩ = _) ∧ (∀ o, (w1.alloc o).frozen? ⟨w.heap.size, 1, none⟩ = _) ∧ (∀ o, (w1.alloc o).frozen? ⟨w.heap.size, 2, none⟩ = _) ∧ (∀ o, (w1.alloc o).frozen? ⟨w.heap.size, 3, none⟩ = _) ∧ (∀ o, (w1.alloc o).frozen? ⟨w.heap.size, 4, none⟩ = _)); have HZ := Lib.hid hzz; clear hb1 hz hzz hlt))
    have HF := Lib.hid (set5 (HZ.out (.cells #[.int .u8 y, .bool true, .bool true, .int .i64 0, .int .i64 0] 100)) (.int .u8 y) (.bool true) (.bool true) (.int .i64 0) (.int .i64 0))
    have HG := Lib.hid ((HB1.out.alloc HB1.out.size (.cells #[.int .u8 y, .bool true, .bool true, .int .i64 0, .int .i64 0] 100)).trans (set5_below (Nat.le_refl w.heap.size) (.int .u8 y) (.bool true) (.bool true) (.int .i64 0) (.int .i64 0)))
    clear x0 x1 x2 x3 x4 y0 y1 y2 y3 y4
    generalize (((((w1.alloc (.cells #[.int .u8 y, .bool true, .bool true, .int .i64 0, .int .i64 0] 100)).setCell ⟨w.heap.size, 0, none⟩ (.int .u8 y)).setCell ⟨w.heap.size, 1, none⟩ (.bool true)).setCell ⟨w.heap.size, 2, none⟩ (.bool true)).setCell ⟨w.heap.size, 3, none⟩ (.int .i64 0)).setCell ⟨w.heap.size, 4, none⟩ (.int .i64 0) = X at HF HG ⊢
    obtain ⟨c0, c1, c2, c3, c4⟩ := laid5 HF.out
    exact bodyPost_ret (v := .agg #[.int .u8 y, .bool true, .bool true, .int .i64 0, .int .i64 0]) (by simp [results, Tryd.results86, go_sem, c0, c1, c2, c3, c4]; try rfl) rfl ⟨rfl, HG.out⟩
  · go_enter Tryd.func86, Tryd.ntmps86
    go_wp2_with (go_at_call 107; go_loud (refine (noPane_any _).mono ?_; rintro e_ w1 ⟨rfl, hb1⟩; have hz := (hb1.block _ (by rw [World.size_alloc]; omega)).trans (heap_alloc_new w _); have HB1 := Lib.hid (((Below.refl _ w).alloc (Nat.le_refl _) _).trans (hb1.mono (by simp))); have hlt := blk_lt hz; have hzz : ∀ o, (w1.alloc o).heap[w.heap.size]? = _ := fun o => (((Below.refl w1.heap.size w1).alloc (Nat.le_refl _) o).block _ hlt).trans hz; obtain ⟨x0, x1, x2, x3, x4⟩ := (⟨fun o => (laid5 (hzz o)).1, fun o => (laid5 (hzz o)).2.1, fun o => (laid5 (hzz o)).2.2.1, fun o => (laid5 (hzz o)).2.2.2.1, fun o => (laid5 (hzz o)).2.2.2.2⟩ : (∀ o, (w1.alloc o).cell? ⟨w.heap.size, 0, none⟩ = _) ∧ (∀ o, (w1.alloc o).cell? ⟨w.heap.size, 1, none⟩ = _) ∧ (∀ o, (w1.alloc o).cell? ⟨w.heap.size, 2, none⟩ = _) ∧ (∀ o, (w1.alloc o).cell? ⟨w.heap.size, 3, none⟩ = _) ∧ (∀ o, (w1.alloc o).cell? ⟨w.heap.size, 4, none⟩ = _)); obtain ⟨y0, y1, y2, y3, y4⟩ := (⟨fun o => (open5 (hzz o)).1, fun o => (open5 (hzz o)).2.1, fun o => (open5 (hzz o)).2.2.1, fun o => (open5 (hzz o)).2.2.2.1, fun o => (open5 (hzz o)).2.2.2.2⟩ : (∀ o, (w1.alloc o).frozen? ⟨w.heap.size, 0, none⟩ = _) ∧ (∀ o, (w1.alloc o).frozen? ⟨w.heap.size, 1, none⟩ = _) ∧ (∀ o, (w1.alloc o).frozen? ⟨w.heap.size, 2, none⟩ = _) ∧ (∀ o, (w1.alloc o).frozen? ⟨w.heap.size, 3, none⟩ = _) ∧ (∀ o, (w1.alloc o).frozen? ⟨w.heap.size, 4, none⟩ = _)); have HZ := Lib.hid hzz; clear hb1 hz hzz hlt))
    have HF := Lib.hid (set5 (HZ.out (.cells #[.int .u8 y, .bool true, .bool false, .int .i64 0, .int .i64 0] 100)) (.int .u8 y) (.bool true) (.bool false) (.int .i64 0) (.int .i64 0))
    have HG := Lib.hid ((HB1.out.alloc HB1.out.size (.cells #[.int .u8 y, .bool true, .bool false, .int .i64 0, .int .i64 0] 100)).trans (set5_below (Nat.le_refl w.heap.size) (.int .u8 y) (.bool true) (.bool false) (.int .i64 0) (.int .i64 0)))
    clear x0 x1 x2 x3 x4 y0 y1 y2 y3 y4
    generalize (((((w1.alloc (.cells #[.int .u8 y, .bool true, .bool false, .int .i64 0, .int .i64 0] 100)).setCell ⟨w.heap.size, 0, none⟩ (.int .u8 y)).setCell ⟨w.heap.size, 1, none⟩ (.bool true)).setCell ⟨w.heap.size, 2, none⟩ (.bool false)).setCell ⟨w.heap.size, 3, none⟩ (.int .i64 0)).setCell ⟨w.heap.size, 4, none⟩ (.int .i64 0) = X at HF HG ⊢
    obtain ⟨c0, c1, c2, c3, c4⟩ := laid5 HF.out
    exact bodyPost_ret (v := .agg #[.int .u8 y, .bool true, .bool false, .int .i64 0, .int .i64 0]) (by simp [results, Tryd.results86, go_sem, c0, c1, c2, c3, c4]; try rfl) rfl ⟨rfl, HG.out⟩
  · go_enter Tryd.func86, Tryd.ntmps86
    go_wp2_with (go_at_call 107; go_loud (refine (noPane_any _).mono ?_; rintro e_ w1 ⟨rfl, hb1⟩; have hz := (hb1.block _ (by rw [World.size_alloc]; omega)).trans (heap_alloc_new w _); have HB1 := Lib.hid (((Below.refl _ w).alloc (Nat.le_refl _) _).trans (hb1.mono (by simp))); have hlt := blk_lt hz; have hzz : ∀ o, (w1.alloc o).heap[w.heap.size]? = _ := fun o => (((Below.refl w1.heap.size w1).alloc (Nat.le_refl _) o).block _ hlt).trans hz; obtain ⟨x0, x1, x2, x3, x4⟩ := (⟨fun o => (laid5 (hzz o)).1, fun o => (laid5 (hzz o)).2.1, fun o => (laid5 (hzz o)).2.2.1, fun o => (laid5 (hzz o)).2.2.2.1, fun o => (laid5 (hzz o)).2.2.2.2⟩ : (∀ o, (w1.alloc o).cell? ⟨w.heap.size, 0, none⟩ = _) ∧ (∀ o, (w1.alloc o).cell? ⟨w.heap.size, 1, none⟩ = _) ∧ (∀ o, (w1.alloc o).cell? ⟨w.heap.size, 2, none⟩ = _) ∧ (∀ o, (w1.alloc o).cell? ⟨w.heap.size, 3, none⟩ = _) ∧ (∀ o, (w1.alloc o).cell? ⟨w.heap.size, 4, none⟩ = _)); obtain ⟨y0, y1, y2, y3, y4⟩ := (⟨fun o => (open5 (hzz o)).1, fun o => (open5 (hzz o)).2.1, fun o => (open5 (hzz o)).2.2.1, fun o => (open5 (hzz o)).2.2.2.1, fun o => (open5 (hzz o)).2.2.2.2⟩ : (∀ o, (w1.alloc o).frozen? ⟨w.heap.size, 0, none⟩ = _) ∧ (∀ o, (w1.alloc o).frozen? ⟨w.heap.size, 1, none⟩ = _) ∧ (∀ o, (w1.alloc o).frozen? ⟨w.heap.size, 2, none⟩ = _) ∧ (∀ o, (w1.alloc o).frozen? ⟨w.heap.size, 3, none⟩ = _) ∧ (∀ o, (w1.alloc o).frozen? ⟨w.heap.size, 4, none⟩ = _)); have HZ := Lib.hid hzz; clear hb1 hz hzz hlt))
    have HF := Lib.hid (set5 (HZ.out (.cells #[.int .u8 y, .bool false, .bool true, .int .i64 0, .int .i64 0] 100)) (.int .u8 y) (.bool false) (.bool true) (.int .i64 0) (.int .i64 0))
    have HG := Lib.hid ((HB1.out.alloc HB1.out.size (.cells #[.int .u8 y, .bool false, .bool true, .int .i64 0, .int .i64 0] 100)).trans (set5_below (Nat.le_refl w.heap.size) (.int .u8 y) (.bool false) (.bool true) (.int .i64 0) (.int .i64 0)))
    clear x0 x1 x2 x3 x4 y0 y1 y2 y3 y4
    generalize (((((w1.alloc (.cells #[.int .u8 y, .bool false, .bool true, .int .i64 0, .int .i64 0] 100)).setCell ⟨w.heap.size, 0, none⟩ (.int .u8 y)).setCell ⟨w.heap.size, 1, none⟩ (.bool false)).setCell ⟨w.heap.size, 2, none⟩ (.bool true)).setCell ⟨w.heap.size, 3, none⟩ (.int .i64 0)).setCell ⟨w.heap.size, 4, none⟩ (.int .i64 0) = X at HF HG ⊢
    obtain ⟨c0, c1, c2, c3, c4⟩ := laid5 HF.out
    exact bodyPost_ret (v := .agg #[.int .u8 y, .bool false, .bool true, .int .i64 0, .int .i64 0]) (by simp [results, Tryd.results86, go_sem, c0, c1, c2, c3, c4]; try rfl) rfl ⟨rfl, HG.out⟩
  · go_enter Tryd.func86, Tryd.ntmps86
    go_wp2_with (go_at_call 107; go_loud (refine (noPane_any _).mono ?_; rintro e_ w1 ⟨rfl, hb1⟩; have hz := (hb1.block _ (by rw [World.size_alloc]; omega)).trans (heap_alloc_new w _); have HB1 := Lib.hid (((Below.refl _ w).alloc (Nat.le_refl _) _).trans (hb1.mono (by simp))); have hlt := blk_lt hz; have hzz : ∀ o, (w1.alloc o).heap[w.heap.size]? = _ := fun o => (((Below.refl w1.heap.size w1).alloc (Nat.le_refl _) o).block _ hlt).trans hz; obtain ⟨x0, x1, x2, x3, x4⟩ := (⟨fun o => (laid5 (hzz o)).1, fun o => (laid5 (hzz o)).2.1, fun o => (laid5 (hzz o)).2.2.1, fun o => (laid5 (hzz o)).2.2.2.1, fun o => (laid5 (hzz o)).2.2.2.2⟩ : (∀ o, (w1.alloc o).cell? ⟨w.heap.size, 0, none⟩ = _) ∧ (∀ o, (w1.alloc o).cell? ⟨w.heap.size, 1, none⟩ = _) ∧ (∀ o, (w1.alloc o).cell? ⟨w.heap.size, 2, none⟩ = _) ∧ (∀ o, (w1.alloc o).cell? ⟨w.heap.size, 3, none⟩ = _) ∧ (∀ o, (w1.alloc o).cell? ⟨w.heap.size, 4, none⟩ = _)); obtain ⟨y0, y1, y2, y3, y4⟩ := (⟨fun o => (open5 (hzz o)).1, fun o => (open5 (hzz o)).2.1, fun o => (open5 (hzz o)).2.2.1, fun o => (open5 (hzz o)).2.2.2.1, fun o => (open5 (hzz o)).2.2.2.2⟩ : (∀ o, (w1.alloc o).frozen? ⟨w.heap.size, 0, none⟩ = _) ∧ (∀ o, (w1.alloc o).frozen? ⟨w.heap.size, 1, none⟩ = _) ∧ (∀ o, (w1.alloc o).frozen? ⟨w.heap.size, 2, none⟩ = _) ∧ (∀ o, (w1.alloc o).frozen? ⟨w.heap.size, 3, none⟩ = _) ∧ (∀ o, (w1.alloc o).frozen? ⟨w.heap.size, 4, none⟩ = _)); have HZ := Lib.hid hzz; clear hb1 hz hzz hlt))
    have HF := Lib.hid (set5 (HZ.out (.cells #[.int .u8 y, .bool false, .bool false, .int .i64 0, .int .i64 0] 100)) (.int .u8 y) (.bool false) (.bool false) (.int .i64 0) (.int .i64 0))
    have HG := Lib.hid ((HB1.out.alloc HB1.out.size (.cells #[.int .u8 y, .bool false, .bool false, .int .i64 0, .int .i64 0] 100)).trans (set5_below (Nat.le_refl w.heap.size) (.int .u8 y) (.bool false) (.bool false) (.int .i64 0) (.int .i64 0)))
    clear x0 x1 x2 x3 x4 y0 y1 y2 y3 y4
    generalize (((((w1.alloc (.cells #[.int .u8 y, .bool false, .bool false, .int .i64 0, .int .i64 0] 100)).setCell ⟨w.heap.size, 0, none⟩ (.int .u8 y)).setCell ⟨w.heap.size, 1, none⟩ (.bool false)).setCell ⟨w.heap.size, 2, none⟩ (.bool false)).setCell ⟨w.heap.size, 3, none⟩ (.int .i64 0)).setCell ⟨w.heap.size, 4, none⟩ (.int .i64 0) = X at HF HG ⊢
    obtain ⟨c0, c1, c2, c3, c4⟩ := laid5 HF.out
    exact bodyPost_ret (v := .agg #[.int .u8 y, .bool false, .bool false, .int .i64 0, .int .i64 0]) (by simp [results, Tryd.results86, go_sem, c0, c1, c2, c3, c4]; try rfl) rfl ⟨rfl, HG.out⟩
set_option maxHeartbeats 4000000 in
set_option maxRecDepth 100000 in
theorem implPane_any (b : Nat) (hb : b < 256) (w : World) :
    Calls Tryd.prog 33 #[.int .u8 b] w fun e w' => e = .returned (.agg #[.int .i64 (b / 4 % 4 : Nat), .bool (b % 2 = 1), .bool (b / 2 % 2 = 1), .int .i64 0, .int .i64 0]) ∧ Below w.heap.size w w' := by
  obtain ⟨y, hy⟩ : ∃ y, Hid (b / 4 % 4 = y) := ⟨_, Lib.hid rfl⟩
  obtain ⟨f, hf⟩ : ∃ f, Hid (decide (b % 2 = 1) = f) := ⟨_, Lib.hid rfl⟩
  obtain ⟨l, hl⟩ : ∃ l, Hid (decide (b / 2 % 2 = 1) = l) := ⟨_, Lib.hid rfl⟩
  have HY := Lib.hid (show y < 256 by have := hy.out; omega)
  have HN := Lib.hid (newPane_any b hb)
  rw [hy.out, hf.out, hl.out] at HN ⊢
  clear hb
  go_enter Tryd.func33, Tryd.ntmps33
  go_wp2_with (first
    | (go_at_call 86; go_loud (refine (HN.out _).mono ?_; rintro e_ w1 ⟨rfl, hb1⟩; have hz := (hb1.block _ (by rw [World.size_alloc]; omega)).trans (heap_alloc_new w _); have HB1 := Lib.hid (((Below.refl _ w).alloc (Nat.le_refl _) _).trans (hb1.mono (by simp))); have HZ := Lib.hid hz; clear hb1 hz))
    | (go_at_call 54; go_loud (refine (backPane_any y f l 0 0 HY.out w1).mono ?_; rintro e_ w2 ⟨rfl, hb2⟩; have hz := (hb2.block _ (blk_lt HZ.out)).trans HZ.out; have HB2 := Lib.hid (HB1.out.trans (hb2.mono HB1.out.size)); obtain ⟨x0, x1, x2, x3, x4⟩ := laid5 hz; obtain ⟨y0, y1, y2, y3, y4⟩ := open5 hz; have HZ2 := Lib.hid hz; clear hb2 hz)))
  have HF := Lib.hid (set5 HZ2.out (.int .i64 y) (.bool f) (.bool l) (.int .i64 0) (.int .i64 0))
  have HG := Lib.hid (HB2.out.trans (set5_below (W := w2) (Nat.le_refl w.heap.size) (.int .i64 y) (.bool f) (.bool l) (.int .i64 0) (.int .i64 0)))
  clear x0 x1 x2 x3 x4 y0 y1 y2 y3 y4
  generalize ((((w2.setCell ⟨w.heap.size, 0, none⟩ (.int .i64 y)).setCell ⟨w.heap.size, 1, none⟩ (.bool f)).setCell ⟨w.heap.size, 2, none⟩ (.bool l)).setCell ⟨w.heap.size, 3, none⟩ (.int .i64 0)).setCell ⟨w.heap.size, 4, none⟩ (.int .i64 0) = X at HF HG ⊢
  obtain ⟨c0, c1, c2, c3, c4⟩ := laid5 HF.out
  exact bodyPost_ret (v := .agg #[.int .i64 y, .bool f, .bool l, .int .i64 0, .int .i64 0]) (by simp [results, Tryd.results33, go_sem, c0, c1, c2, c3, c4]; try rfl) rfl ⟨rfl, HG.out⟩
set_option maxHeartbeats 4000000 in
set_option maxRecDepth 100000 in
theorem paneOf_walk (pe pl : Addr) (b : Nat) (hb : b < 256) (w : World) (he : Env w.heap.size pe pl w) :
    Calls Tryd.prog 12 #[.int .u8 b] w fun e w' => e = .returned (.bool true) ∧ Below w.heap.size w w' := by
  have a1 := and1 b hb
  have a2 := and2 b hb
  obtain ⟨q, hq⟩ : ∃ q, Hid (b / 4 = q) := ⟨_, Lib.hid rfl⟩
  have a0 : (b : Int) / 4 = (q : Int) := by have := hq.out; omega
  have a3 := and3 q (by have := hq.out; omega)
  obtain ⟨y, hy⟩ : ∃ y, Hid (q % 4 = y) := ⟨_, Lib.hid rfl⟩
  rw [hy.out] at a3
  have a5 : wrap64 (y : Int) = (y : Int) := by have := hy.out; unfold wrap64; omega
  have HN := Lib.hid (implPane_any b hb)
  rw [hq.out, hy.out] at HN
  have HE := Lib.hid he
  clear hb he
  have e2 : ∀ x, x % 2 = 1 ∨ x % 2 = 0 := fun x => by omega
  rcases e2 b with h1 | h1 <;> rcases e2 (b / 2) with h2 | h2 <;> rw [h1] at a1 <;> rw [h2] at a2 <;> simp only [h1, h2, decide_true, show decide ((0 : Nat) = 1) = false from rfl] at HN
  all_goals
    clear e2 h1 h2
    go_enter Tryd.func12, Tryd.ntmps12
    go_wp2_with (first
      | (go_at_call 33; go_loud (refine (HN.out _).mono ?_; rintro e_ w2 ⟨rfl, hb2⟩; have HB2 := Lib.hid (HB1.out.trans (hb2.mono HB1.out.size)); clear hb2))
      | (go_at_call 21; go_loud (refine (awake_any w.heap.size pe pl w HE.out (Nat.le_refl _)).mono ?_; rintro e_ w1 ⟨rfl, hb1⟩; have HB1 := Lib.hid hb1; clear hb1)))
    go_ret
    exact ⟨rfl, HB2.out⟩
theorem paneOf_row (pe pl : Addr) (b : Int) (w : World) (hb : (Lit.int .u8 b).wf = true) (he : Env w.heap.size pe pl w) :
    Calls Tryd.prog 12 #[.int .u8 b] w fun e w' => e = .returned (.bool true) ∧ Below w.heap.size w w' := by
  obtain ⟨g0, g1⟩ := u8_bd hb
  obtain ⟨m, rfl⟩ := Int.eq_ofNat_of_zero_le g0
  exact paneOf_walk pe pl m (by omega) w he
end Go.Proofs.YtgdbeiadlgkedaaDoor
