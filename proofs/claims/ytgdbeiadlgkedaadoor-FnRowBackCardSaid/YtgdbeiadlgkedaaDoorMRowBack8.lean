/- Contracts and plain laws, several texts in one. -/
import Derived.Test.YtgdbeiadlgkedaaDoorMRowBack7
import Derived.Laws.MakeOwn
/- The walks of the statement on a pane's byte. -/
namespace Go.Proofs.YtgdbeiadlgkedaaDoor
open Go.RowKit
set_option linter.unusedVariables false
set_option linter.unusedSimpArgs false

theorem and1 (b : Nat) (h : b < 256) : bits .and .u8 (b : Int) 1 = ((b % 2 : Nat) : Int) := by
  have : ∀ b : Fin 256, bits .and .u8 ((b : Nat) : Int) 1 = (((b : Nat) % 2 : Nat) : Int) := by decide +kernel
  exact this ⟨b, h⟩
theorem and2 (b : Nat) (h : b < 256) : bits .and .u8 (b : Int) 2 = ((b / 2 % 2 * 2 : Nat) : Int) := by
  have : ∀ b : Fin 256, bits .and .u8 ((b : Nat) : Int) 2 = (((b : Nat) / 2 % 2 * 2 : Nat) : Int) := by decide +kernel
  exact this ⟨b, h⟩
theorem and3 (b : Nat) (h : b < 256) : bits .and .u8 (b : Int) 3 = ((b % 4 : Nat) : Int) := by
  have : ∀ b : Fin 256, bits .and .u8 ((b : Nat) : Int) 3 = (((b : Nat) % 4 : Nat) : Int) := by decide +kernel
  exact this ⟨b, h⟩
set_option maxHeartbeats 4000000 in
set_option maxRecDepth 100000 in
theorem noPane_any (w : World) :
    Calls Tryd.prog 107 #[] w fun e w' => e = .returned (.agg #[.int .u8 3, .bool true, .bool true, .int .i64 0, .int .i64 0]) ∧ Below w.heap.size w w' := by
  go_enter Tryd.func107, Tryd.ntmps107
  go_wp2
  obtain ⟨X, hX⟩ : ∃ X, X = w.alloc (.cells #[.int .u8 3, .bool true, .bool true, .int .i64 0, .int .i64 0] 100) := ⟨_, rfl⟩
  have hb : X.heap[w.heap.size]? = some (.cells #[.int .u8 3, .bool true, .bool true, .int .i64 0, .int .i64 0] 100 (0, 0)) := by rw [hX]; exact heap_alloc_new w _
  have HX := Lib.hid (show Below w.heap.size w X by rw [hX]; exact (Below.refl _ w).alloc (Nat.le_refl _) _)
  rw [← hX]
  clear hX
  have c0 : X.cell? ⟨w.heap.size, 0, none⟩ = some (.int .u8 3) := (blk_cell hb 0).trans rfl
  have c1 : X.cell? ⟨w.heap.size, 1, none⟩ = some (.bool true) := (blk_cell hb 1).trans rfl
  have c2 : X.cell? ⟨w.heap.size, 2, none⟩ = some (.bool true) := (blk_cell hb 2).trans rfl
  have c3 : X.cell? ⟨w.heap.size, 3, none⟩ = some (.int .i64 0) := (blk_cell hb 3).trans rfl
  have c4 : X.cell? ⟨w.heap.size, 4, none⟩ = some (.int .i64 0) := (blk_cell hb 4).trans rfl
  clear hb
  exact bodyPost_ret (v := .agg #[.int .u8 3, .bool true, .bool true, .int .i64 0, .int .i64 0]) (by simp [results, Tryd.results107, go_sem, c0, c1, c2, c3, c4]; try rfl) rfl ⟨rfl, HX.out⟩
set_option maxHeartbeats 4000000 in
set_option maxRecDepth 100000 in
theorem backPane_any (t : Nat) (f l : Bool) (i n : Int) (ht : t < 256) (w : World) :
    Calls Tryd.prog 54 #[.agg #[.int .u8 t, .bool f, .bool l, .int .i64 i, .int .i64 n]] w fun e w' => e = .returned (.agg #[.int .i64 t, .bool f, .bool l, .int .i64 i, .int .i64 n]) ∧ Below w.heap.size w w' := by
  have q1 : IntKind.i64.wrap (t : Int) = (t : Int) := IntWalk.i64_in _ (by omega)
  have q2 : wrap64 (t : Int) = (t : Int) := IntWalk.wrap64_in _ (by omega)
  clear ht
  go_enter Tryd.func54, Tryd.ntmps54
  go_wp2
  obtain ⟨X, hX⟩ : ∃ X, X = (w.alloc (.cells #[.int .u8 t, .bool f, .bool l, .int .i64 i, .int .i64 n] 100)).alloc (.cells #[.int .i64 t, .bool f, .bool l, .int .i64 i, .int .i64 n] 24) := ⟨_, rfl⟩
  have hb : X.heap[w.heap.size + 1]? = some (.cells #[.int .i64 t, .bool f, .bool l, .int .i64 i, .int .i64 n] 24 (0, 0)) := by rw [hX]; have := heap_alloc_new (w.alloc (.cells #[.int .u8 t, .bool f, .bool l, .int .i64 i, .int .i64 n] 100)) (.cells #[.int .i64 t, .bool f, .bool l, .int .i64 i, .int .i64 n] 24); rwa [World.size_alloc] at this
  have HX := Lib.hid (show Below w.heap.size w X by rw [hX]; exact ((Below.refl _ w).alloc (Nat.le_refl _) _).alloc (by rw [World.size_alloc]; omega) _)
  rw [← hX]
  clear hX
  have c0 : X.cell? ⟨w.heap.size + 1, 0, none⟩ = some (.int .i64 t) := (blk_cell hb 0).trans rfl
  have c1 : X.cell? ⟨w.heap.size + 1, 1, none⟩ = some (.bool f) := (blk_cell hb 1).trans rfl
  have c2 : X.cell? ⟨w.heap.size + 1, 2, none⟩ = some (.bool l) := (blk_cell hb 2).trans rfl
  have c3 : X.cell? ⟨w.heap.size + 1, 3, none⟩ = some (.int .i64 i) := (blk_cell hb 3).trans rfl
  have c4 : X.cell? ⟨w.heap.size + 1, 4, none⟩ = some (.int .i64 n) := (blk_cell hb 4).trans rfl
  clear hb
  exact bodyPost_ret (v := .agg #[.int .i64 t, .bool f, .bool l, .int .i64 i, .int .i64 n]) (by simp [results, Tryd.results54, go_sem, c0, c1, c2, c3, c4]; try rfl) rfl ⟨rfl, HX.out⟩
theorem set5 {W : World} {b : Nat} {a0 a1 a2 a3 a4 : Value} {T : TypeId} {fr : Nat × Nat} (h : W.heap[b]? = some (.cells #[a0, a1, a2, a3, a4] T fr)) (v0 v1 v2 v3 v4 : Value) :
    (((((W.setCell ⟨b, 0, none⟩ v0).setCell ⟨b, 1, none⟩ v1).setCell ⟨b, 2, none⟩ v2).setCell ⟨b, 3, none⟩ v3).setCell ⟨b, 4, none⟩ v4).heap[b]? = some (.cells #[v0, v1, v2, v3, v4] T fr) := by
  have h0 : (W.setCell ⟨b, 0, none⟩ v0).heap[b]? = some (.cells #[v0, a1, a2, a3, a4] T fr) := (Lib.heap_setCell_same (i := 0) h v0).trans rfl
  have h1 : ((W.setCell ⟨b, 0, none⟩ v0).setCell ⟨b, 1, none⟩ v1).heap[b]? = some (.cells #[v0, v1, a2, a3, a4] T fr) := (Lib.heap_setCell_same (i := 1) h0 v1).trans rfl
  have h2 : (((W.setCell ⟨b, 0, none⟩ v0).setCell ⟨b, 1, none⟩ v1).setCell ⟨b, 2, none⟩ v2).heap[b]? = some (.cells #[v0, v1, v2, a3, a4] T fr) := (Lib.heap_setCell_same (i := 2) h1 v2).trans rfl
  have h3 : ((((W.setCell ⟨b, 0, none⟩ v0).setCell ⟨b, 1, none⟩ v1).setCell ⟨b, 2, none⟩ v2).setCell ⟨b, 3, none⟩ v3).heap[b]? = some (.cells #[v0, v1, v2, v3, a4] T fr) := (Lib.heap_setCell_same (i := 3) h2 v3).trans rfl
  exact (Lib.heap_setCell_same (i := 4) h3 v4).trans rfl
theorem set5_below {W : World} {b B : Nat} (hb : B ≤ b) (v0 v1 v2 v3 v4 : Value) :
    Below B W (((((W.setCell ⟨b, 0, none⟩ v0).setCell ⟨b, 1, none⟩ v1).setCell ⟨b, 2, none⟩ v2).setCell ⟨b, 3, none⟩ v3).setCell ⟨b, 4, none⟩ v4) :=
  (((((Below.refl B W).setCell (p := ⟨b, 0, none⟩) hb v0).setCell (p := ⟨b, 1, none⟩) hb v1).setCell (p := ⟨b, 2, none⟩) hb v2).setCell (p := ⟨b, 3, none⟩) hb v3).setCell (p := ⟨b, 4, none⟩) hb v4
theorem laid5 {X : World} {b : Nat} {v0 v1 v2 v3 v4 : Value} {T : TypeId} (h : X.heap[b]? = some (.cells #[v0, v1, v2, v3, v4] T (0, 0))) :
    X.cell? ⟨b, 0, none⟩ = some v0 ∧ X.cell? ⟨b, 1, none⟩ = some v1 ∧ X.cell? ⟨b, 2, none⟩ = some v2 ∧ X.cell? ⟨b, 3, none⟩ = some v3 ∧ X.cell? ⟨b, 4, none⟩ = some v4 :=
  ⟨(blk_cell h 0).trans rfl, (blk_cell h 1).trans rfl, (blk_cell h 2).trans rfl, (blk_cell h 3).trans rfl, (blk_cell h 4).trans rfl⟩
theorem open5 {X : World} {b : Nat} {v0 v1 v2 v3 v4 : Value} {T : TypeId} (h : X.heap[b]? = some (.cells #[v0, v1, v2, v3, v4] T (0, 0))) :
    X.frozen? ⟨b, 0, none⟩ = false ∧ X.frozen? ⟨b, 1, none⟩ = false ∧ X.frozen? ⟨b, 2, none⟩ = false ∧ X.frozen? ⟨b, 3, none⟩ = false ∧ X.frozen? ⟨b, 4, none⟩ = false :=
  ⟨blk_frozen h 0, blk_frozen h 1, blk_frozen h 2, blk_frozen h 3, blk_frozen h 4⟩
set_option maxHeartbeats 4000000 in
set_option maxRecDepth 100000 in
theorem newPane_any (b : Nat) (hb : b < 256) (w : World) :
    Calls Tryd.prog 86 #[.int .u8 b] w fun e w' => e = .returned (.agg #[.int .u8 (b / 4 % 4 : Nat), .bool (b % 2 = 1), .bool (b / 2 % 2 = 1), .int .i64 0, .int .i64 0]) ∧ Below w.heap.size w w' := by
  have a1 := and1 b hb
  have a2 := and2 b hb
  obtain ⟨q, hq⟩ : ∃ q, Hid (b / 4 = q) := ⟨_, Lib.hid rfl⟩
  have a0 : (b : Int) / 4 = (q : Int) := by have := hq.out; omega
  have a3 := and3 q (by have := hq.out; omega)
  obtain ⟨y, hy⟩ : ∃ y, Hid (q % 4 = y) := ⟨_, Lib.hid rfl⟩
  rw [hy.out] at a3
  rw [hq.out, hy.out]
  clear hb
  have e2 : ∀ x, x % 2 = 1 ∨ x % 2 = 0 := fun x => by omega
  rcases e2 b with h1 | h1 <;> rcases e2 (b / 2) with h2 | h2 <;> rw [h1] at a1 <;> rw [h2] at a2 <;> simp only [h1, h2, decide_true, show decide ((0 : Nat) = 1) = false from rfl]
  · go_enter Tryd.func86, Tryd.ntmps86
    go_wp2_with (go_at_call 107; go_loud (refine (noPane_any _).mono ?_; rintro e_ w1 ⟨rfl, hb1⟩; have hz := (hb1.block _ (by rw [World.size_alloc]; omega)).trans (heap_alloc_new w _); have HB1 := Lib.hid (((Below.refl _ w).alloc (Nat.le_refl _) _).trans (hb1.mono (by simp))); have hlt := blk_lt hz; have hzz : ∀ o, (w1.alloc o).heap[w.heap.size]? = _ := fun o => (((Below.refl w1.heap.size w1).alloc (Nat.le_refl _) o).block _ hlt).trans hz; obtain ⟨x0, x1, x2, x3, x4⟩ := (⟨fun o => (laid5 (hzz o)).1, fun o => (laid5 (hzz o)).2.1, fun o => (laid5 (hzz o)).2.2.1, fun o => (laid5 (hzz o)).2.2.2.1, fun o => (laid5 (hzz o)).2.2.2.2⟩ : (∀ o, (w1.alloc o).cell? ⟨w.heap.size, 0, none⟩ = _) ∧ (∀ o, (w1.alloc o).cell? ⟨w.heap.size, 1, none⟩ = _) ∧ (∀ o, (w1.alloc o).cell? ⟨w.heap.size, 2, none⟩ = _) ∧ (∀ o, (w1.alloc o).cell? ⟨w.heap.size, 3, none⟩ = _) ∧ (∀ o, (w1.alloc o).cell? ⟨w.heap.size, 4, none⟩ = _)); obtain ⟨y0, y1, y2, y3, y4⟩ := (⟨fun o => (open5 (hzz o)).1, fun o => (open5 (hzz o)).2.1, fun o => (open5 (hzz o)).2.2.1, fun o => (open5 (hzz o)).2.2.2.1, fun o => (open5 (hzz o)).2.2.2.2⟩ : (∀ o, (w1.alloc o).frozen? ⟨w.heap.size, 0, none⟩ = _) ∧ (∀ o, (w1.alloc o).frozen? ⟨w.heap.size, 1, none⟩ = _) ∧ (∀ o, (w1.alloc o).frozen? ⟨w.heap.size, 2, none⟩ = _) ∧ (∀ o, (w1.alloc o).frozen? ⟨w.heap.size, 3, none⟩ = _) ∧ (∀ o, (w1.alloc o).frozen? ⟨w.heap.size, 4, none⟩ = _)); have HZ := Lib.hid hzz; clear hb1 hz hzz hlt))
    have HF := Lib.hid (set5 (HZ.out (.cells #[.int .u8 y, .bool true, .bool true, .int .i64 0, .int .i64 0] 100)) (.int .u8 y) (.bool true) (.bool true) (.int .i64 0) (.int .i64 0))
    have HG := Lib.hid ((HB1.out.alloc HB1.out.size (.cells #[.int .u8 y, .bool true, .bool true, .int .i64 0, .int .i64 0] 100)).trans (set5_below (Nat.le_refl w.heap.size) (.int .u8 y) (.bool true) (.bool true) (.int .i64 0) (.int .i64 0)))
    clear x0 x1 x2 x3 x4 y0 y1 y2 y3 y4
    generalize (((((w1.alloc (.cells #[.int .u8 y, .bool true, .bool true, .int .i64 0, .int .i64 0] 100)).setCell ⟨w.heap.size, 0, none⟩ (.int .u8 y)).setCell ⟨w.heap.size, 1, none⟩ (.bool true)).setCell ⟨w.heap.size, 2, none⟩ (.bool true)).setCell ⟨w.heap.size, 3, none⟩ (.int .i64 0)).setCell ⟨w.heap.size, 4, none⟩ (.int .i64 0) = X at HF HG ⊢
    obtain ⟨c0, c1, c2, c3, c4⟩ := laid5 HF.out
    exact bodyPost_ret (v := .agg #[.int .u8 y, .bool true, .bool true, .int .i64 0, .int .i64 0]) (by simp [results, Tryd.results86, go_sem, c0, c1, c2, c3, c4]; try rfl) rfl ⟨rfl, HG.out⟩
  · go_enter Tryd.func86, Tryd.ntmps86
    go_wp2_with (go_at_call 107; go_loud (refine (noPane_any _).mono ?_; rintro e_ w1 ⟨rfl, hb1⟩; have hz := (hb1.block _ (by rw [World.size_alloc]; omega)).trans (heap_alloc_new w _); have HB1 := Lib.hid (((Below.refl _ w).alloc (Nat.le_refl _) _).trans (hb1.mono (by simp))); have hlt := blk_lt hz; have hzz : ∀ o, (w1.alloc o).heap[w.heap.size]? = _ := fun o => (((Below.refl w1.heap.size w1).alloc (Nat.le_refl _) o).block _ hlt).trans hz; obtain ⟨x0, x1, x2, x3, x4⟩ := (⟨fun o => (laid5 (hzz o)).1, fun o => (laid5 (hzz o)).2.1, fun o => (laid5 (hzz o)).2.2.1, fun o => (laid5 (hzz o)).2.2.2.1, fun o => (laid5 (hzz o)).2.2.2.2⟩ : (∀ o, (w1.alloc o).cell? ⟨w.heap.size, 0, none⟩ = _) ∧ (∀ o, (w1.alloc o).cell? ⟨w.heap.size, 1, none⟩ = _) ∧ (∀ o, (w1.alloc o).cell? ⟨w.heap.size, 2, none⟩ = _) ∧ (∀ o, (w1.alloc o).cell? ⟨w.heap.size, 3, none⟩ = _) ∧ (∀ o, (w1.alloc o).cell? ⟨w.heap.size, 4, none⟩ = _)); obtain ⟨y0, y1, y2, y3, y4⟩ := (⟨fun o => (open5 (hzz o)).1, fun o => (open5 (hzz o)).2.1, fun o => (open5 (hzz o)).2.2.1, fun o => (open5 (hzz o)).2.2.2.1, fun o => (open5 (hzz o)).2.2.2.2⟩ : (∀ o, (w1.alloc o).frozen? ⟨w.heap.size, 0, none⟩ = _) ∧ (∀ o, (w1.alloc o).frozen? ⟨w.heap.size, 1, none⟩ = _) ∧ (∀ o, (w1.alloc o).frozen? ⟨w.heap.size, 2, none⟩ = _) ∧ (∀ o, (w1.alloc o).frozen? ⟨w.heap.size, 3, none⟩ = _) ∧ (∀ o, (w1.alloc o).frozen? ⟨w.heap.size, 4, none⟩ = _)); have HZ := Lib.hid hzz; clear hb1 hz hzz hlt))
    have HF := Lib.hid (set5 (HZ.out (.cells #[.int .u8 y, .bool true, .bool false, .int .i64 0, .int .i64 0] 100)) (.int .u8 y) (.bool true) (.bool false) (.int .i64 0) (.int .i64 0))
    have HG := Lib.hid ((HB1.out.alloc HB1.out.size (.cells #[.int .u8 y, .bool true, .bool false, .int .i64 0, .int .i64 0] 100)).trans (set5_below (Nat.le_refl w.heap.size) (.int .u8 y) (.bool true) (.bool false) (.int .i64 0) (.int .i64 0)))
    clear x0 x1 x2 x3 x4 y0 y1 y2 y3 y4
    generalize (((((w1.alloc (.cells #[.int .u8 y, .bool true, .bool false, .int .i64 0, .int .i64 0] 100)).setCell ⟨w.heap.size, 0, none⟩ (.int .u8 y)).setCell ⟨w.heap.size, 1, none⟩ (.bool true)).setCell ⟨w.heap.size, 2, none⟩ (.bool false)).setCell ⟨w.heap.size, 3, none⟩ (.int .i64 0)).setCell ⟨w.heap.size, 4, none⟩ (.int .i64 0) = X at HF HG ⊢
    obtain ⟨c0, c1, c2, c3, c4⟩ := laid5 HF.out
    exact bodyPost_ret (v := .agg #[.int .u8 y, .bool true, .bool false, .int .i64 0, .int .i64 0]) (by simp [results, Tryd.results86, go_sem, c0, c1, c2, c3, c4]; try rfl) rfl ⟨rfl, HG.out⟩
  · go_enter Tryd.func86, Tryd.ntmps86
    go_wp2_with (go_at_call 107; go_loud (refine (noPane_any _).mono ?_; rintro e_ w1 ⟨rfl, hb1⟩; have hz := (hb1.block _ (by rw [World.size_alloc]; omega)).trans (heap_alloc_new w _); have HB1 := Lib.hid (((Below.refl _ w).alloc (Nat.le_refl _) _).trans (hb1.mono (by simp))); have hlt := blk_lt hz; have hzz : ∀ o, (w1.alloc o).heap[w.heap.size]? = _ := fun o => (((Below.refl w1.heap.size w1).alloc (Nat.le_refl _) o).block _ hlt).trans hz; obtain ⟨x0, x1, x2, x3, x4⟩ := (⟨fun o => (laid5 (hzz o)).1, fun o => (laid5 (hzz o)).2.1, fun o => (laid5 (hzz o)).2.2.1, fun o => (laid5 (hzz o)).2.2.2.1, fun o => (laid5 (hzz o)).2.2.2.2⟩ : (∀ o, (w1.alloc o).cell? ⟨w.heap.size, 0, none⟩ = _) ∧ (∀ o, (w1.alloc o).cell? ⟨w.heap.size, 1, none⟩ = _) ∧ (∀ o, (w1.alloc o).cell? ⟨w.heap.size, 2, none⟩ = _) ∧ (∀ o, (w1.alloc o).cell? ⟨w.heap.size, 3, none⟩ = _) ∧ (∀ o, (w1.alloc o).cell? ⟨w.heap.size, 4, none⟩ = _)); obtain ⟨y0, y1, y2, y3, y4⟩ := (⟨fun o => (open5 (hzz o)).1, fun o => (open5 (hzz o)).2.1, fun o => (open5 (hzz o)).2.2.1, fun o => (open5 (hzz o)).2.2.2.1, fun o => (open5 (hzz o)).2.2.2.2⟩ : (∀ o, (w1.alloc o).frozen? ⟨w.heap.size, 0, none⟩ = _) ∧ (∀ o, (w1.alloc o).frozen? ⟨w.heap.size, 1, none⟩ = _) ∧ (∀ o, (w1.alloc o).frozen? ⟨w.heap.size, 2, none⟩ = _) ∧ (∀ o, (w1.alloc o).frozen? ⟨w.heap.size, 3, none⟩ = _) ∧ (∀ o, (w1.alloc o).frozen? ⟨w.heap.size, 4, none⟩ = _)); have HZ := Lib.hid hzz; clear hb1 hz hzz hlt))
    have HF := Lib.hid (set5 (HZ.out (.cells #[.int .u8 y, .bool false, .bool true, .int .i64 0, .int .i64 0] 100)) (.int .u8 y) (.bool false) (.bool true) (.int .i64 0) (.int .i64 0))
    have HG := Lib.hid ((HB1.out.alloc HB1.out.size (.cells #[.int .u8 y, .bool false, .bool true, .int .i64 0, .int .i64 0] 100)).trans (set5_below (Nat.le_refl w.heap.size) (.int .u8 y) (.bool false) (.bool true) (.int .i64 0) (.int .i64 0)))
    clear x0 x1 x2 x3 x4 y0 y1 y2 y3 y4
    generalize (((((w1.alloc (.cells #[.int .u8 y, .bool false, .bool true, .int .i64 0, .int .i64 0] 100)).setCell ⟨w.heap.size, 0, none⟩ (.int .u8 y)).setCell ⟨w.heap.size, 1, none⟩ (.bool false)).setCell ⟨w.heap.size, 2, none⟩ (.bool true)).setCell ⟨w.heap.size, 3, none⟩ (.int .i64 0)).setCell ⟨w.heap.size, 4, none⟩ (.int .i64 0) = X at HF HG ⊢
    obtain ⟨c0, c1, c2, c3, c4⟩ := laid5 HF.out
    exact bodyPost_ret (v := .agg #[.int .u8 y, .bool false, .bool true, .int .i64 0, .int .i64 0]) (by simp [results, Tryd.results86, go_sem, c0, c1, c2, c3, c4]; try rfl) rfl ⟨rfl, HG.out⟩
  · go_enter Tryd.func86, Tryd.ntmps86
    go_wp2_with (go_at_call 107; go_loud (refine (noPane_any _).mono ?_; rintro e_ w1 ⟨rfl, hb1⟩; have hz := (hb1.block _ (by rw [World.size_alloc]; omega)).trans (heap_alloc_new w _); have HB1 := Lib.hid (((Below.refl _ w).alloc (Nat.le_refl _) _).trans (hb1.mono (by simp))); have hlt := blk_lt hz; have hzz : ∀ o, (w1.alloc o).heap[w.heap.size]? = _ := fun o => (((Below.refl w1.heap.size w1).alloc (Nat.le_refl _) o).block _ hlt).trans hz; obtain ⟨x0, x1, x2, x3, x4⟩ := (⟨fun o => (laid5 (hzz o)).1, fun o => (laid5 (hzz o)).2.1, fun o => (laid5 (hzz o)).2.2.1, fun o => (laid5 (hzz o)).2.2.2.1, fun o => (laid5 (hzz o)).2.2.2.2⟩ : (∀ o, (w1.alloc o).cell? ⟨w.heap.size, 0, none⟩ = _) ∧ (∀ o, (w1.alloc o).cell? ⟨w.heap.size, 1, none⟩ = _) ∧ (∀ o, (w1.alloc o).cell? ⟨w.heap.size, 2, none⟩ = _) ∧ (∀ o, (w1.alloc o).cell? ⟨w.heap.size, 3, none⟩ = _) ∧ (∀ o, (w1.alloc o).cell? ⟨w.heap.size, 4, none⟩ = _)); obtain ⟨y0, y1, y2, y3, y4⟩ := (⟨fun o => (open5 (hzz o)).1, fun o => (open5 (hzz o)).2.1, fun o => (open5 (hzz o)).2.2.1, fun o => (open5 (hzz o)).2.2.2.1, fun o => (open5 (hzz o)).2.2.2.2⟩ : (∀ o, (w1.alloc o).frozen? ⟨w.heap.size, 0, none⟩ = _) ∧ (∀ o, (w1.alloc o).frozen? ⟨w.heap.size, 1, none⟩ = _) ∧ (∀ o, (w1.alloc o).frozen? ⟨w.heap.size, 2, none⟩ = _) ∧ (∀ o, (w1.alloc o).frozen? ⟨w.heap.size, 3, none⟩ = _) ∧ (∀ o, (w1.alloc o).frozen? ⟨w.heap.size, 4, none⟩ = _)); have HZ := Lib.hid hzz; clear hb1 hz hzz hlt))
    have HF := Lib.hid (set5 (HZ.out (.cells #[.int .u8 y, .bool false, .bool false, .int .i64 0, .int .i64 0] 100)) (.int .u8 y) (.bool false) (.bool false) (.int .i64 0) (.int .i64 0))
    have HG := Lib.hid ((HB1.out.alloc HB1.out.size (.cells #[.int .u8 y, .bool false, .bool false, .int .i64 0, .int .i64 0] 100)).trans (set5_below (Nat.le_refl w.heap.size) (.int .u8 y) (.bool false) (.bool false) (.int .i64 0) (.int .i64 0)))
    clear x0 x1 x2 x3 x4 y0 y1 y2 y3 y4
    generalize (((((w1.alloc (.cells #[.int .u8 y, .bool false, .bool false, .int .i64 0, .int .i64 0] 100)).setCell ⟨w.heap.size, 0, none⟩ (.int .u8 y)).setCell ⟨w.heap.size, 1, none⟩ (.bool false)).setCell ⟨w.heap.size, 2, none⟩ (.bool false)).setCell ⟨w.heap.size, 3, none⟩ (.int .i64 0)).setCell ⟨w.heap.size, 4, none⟩ (.int .i64 0) = X at HF HG ⊢
    obtain ⟨c0, c1, c2, c3, c4⟩ := laid5 HF.out
    exact bodyPost_ret (v := .agg #[.int .u8 y, .bool false, .bool false, .int .i64 0, .int .i64 0]) (by simp [results, Tryd.results86, go_sem, c0, c1, c2, c3, c4]; try rfl) rfl ⟨rfl, HG.out⟩
set_option maxHeartbeats 4000000 in
set_option maxRecDepth 100000 in
theorem implPane_any (b : Nat) (hb : b < 256) (w : World) :
    Calls Tryd.prog 33 #[.int .u8 b] w fun e w' => e = .returned (.agg #[.int .i64 (b / 4 % 4 : Nat), .bool (b % 2 = 1), .bool (b / 2 % 2 = 1), .int .i64 0, .int .i64 0]) ∧ Below w.heap.size w w' := by
  obtain ⟨y, hy⟩ : ∃ y, Hid (b / 4 % 4 = y) := ⟨_, Lib.hid rfl⟩
  obtain ⟨f, hf⟩ : ∃ f, Hid (decide (b % 2 = 1) = f) := ⟨_, Lib.hid rfl⟩
  obtain ⟨l, hl⟩ : ∃ l, Hid (decide (b / 2 % 2 = 1) = l) := ⟨_, Lib.hid rfl⟩
  have HY := Lib.hid (show y < 256 by have := hy.out; omega)
  have HN := Lib.hid (newPane_any b hb)
  rw [hy.out, hf.out, hl.out] at HN ⊢
  clear hb
  go_enter Tryd.func33, Tryd.ntmps33
  go_wp2_with (first
    | (go_at_call 86; go_loud (refine (HN.out _).mono ?_; rintro e_ w1 ⟨rfl, hb1⟩; have hz := (hb1.block _ (by rw [World.size_alloc]; omega)).trans (heap_alloc_new w _); have HB1 := Lib.hid (((Below.refl _ w).alloc (Nat.le_refl _) _).trans (hb1.mono (by simp))); have HZ := Lib.hid hz; clear hb1 hz))
    | (go_at_call 54; go_loud (refine (backPane_any y f l 0 0 HY.out w1).mono ?_; rintro e_ w2 ⟨rfl, hb2⟩; have hz := (hb2.block _ (blk_lt HZ.out)).trans HZ.out; have HB2 := Lib.hid (HB1.out.trans (hb2.mono HB1.out.size)); obtain ⟨x0, x1, x2, x3, x4⟩ := laid5 hz; obtain ⟨y0, y1, y2, y3, y4⟩ := open5 hz; have HZ2 := Lib.hid hz; clear hb2 hz)))
  have HF := Lib.hid (set5 HZ2.out (.int .i64 y) (.bool f) (.bool l) (.int .i64 0) (.int .i64 0))
  have HG := Lib.hid (HB2.out.trans (set5_below (W := w2) (Nat.le_refl w.heap.size) (.int .i64 y) (.bool f) (.bool l) (.int .i64 0) (.int .i64 0)))
  clear x0 x1 x2 x3 x4 y0 y1 y2 y3 y4
  generalize ((((w2.setCell ⟨w.heap.size, 0, none⟩ (.int .i64 y)).setCell ⟨w.heap.size, 1, none⟩ (.bool f)).setCell ⟨w.heap.size, 2, none⟩ (.bool l)).setCell ⟨w.heap.size, 3, none⟩ (.int .i64 0)).setCell ⟨w.heap.size, 4, none⟩ (.int .i64 0) = X at HF HG ⊢
  obtain ⟨c0, c1, c2, c3, c4⟩ := laid5 HF.out
  exact bodyPost_ret (v := .agg #[.int .i64 y, .bool f, .bool l, .int .i64 0, .int .i64 0]) (by simp [results, Tryd.results33, go_sem, c0, c1, c2, c3, c4]; try rfl) rfl ⟨rfl, HG.out⟩
set_option maxHeartbeats 4000000 in
set_option maxRecDepth 100000 in
theorem paneOf_walk (pe pl : Addr) (b : Nat) (hb : b < 256) (w : World) (he : Env w.heap.size pe pl w) :
    Calls Tryd.prog 12 #[.int .u8 b] w fun e w' => e = .returned (.bool true) ∧ Below w.heap.size w w' := by
  have a1 := and1 b hb
  have a2 := and2 b hb
  obtain ⟨q, hq⟩ : ∃ q, Hid (b / 4 = q) := ⟨_, Lib.hid rfl⟩
  have a0 : (b : Int) / 4 = (q : Int) := by have := hq.out; omega
  have a3 := and3 q (by have := hq.out; omega)
  obtain ⟨y, hy⟩ : ∃ y, Hid (q % 4 = y) := ⟨_, Lib.hid rfl⟩
  rw [hy.out] at a3
  have a5 : wrap64 (y : Int) = (y : Int) := by have := hy.out; unfold wrap64; omega
  have HN := Lib.hid (implPane_any b hb)
  rw [hq.out, hy.out] at HN
  have HE := Lib.hid he
  clear hb he
  have e2 : ∀ x, x % 2 = 1 ∨ x % 2 = 0 := fun x => by omega
  rcases e2 b with h1 | h1 <;> rcases e2 (b / 2) with h2 | h2 <;> rw [h1] at a1 <;> rw [h2] at a2 <;> simp only [h1, h2, decide_true, show decide ((0 : Nat) = 1) = false from rfl] at HN
  all_goals
    clear e2 h1 h2
    go_enter Tryd.func12, Tryd.ntmps12
    go_wp2_with (first
      | (go_at_call 33; go_loud (refine (HN.out _).mono ?_; rintro e_ w2 ⟨rfl, hb2⟩; have HB2 := Lib.hid (HB1.out.trans (hb2.mono HB1.out.size)); clear hb2))
      | (go_at_call 21; go_loud (refine (awake_any w.heap.size pe pl w HE.out (Nat.le_refl _)).mono ?_; rintro e_ w1 ⟨rfl, hb1⟩; have HB1 := Lib.hid hb1; clear hb1)))
    go_ret
    exact ⟨rfl, HB2.out⟩
theorem paneOf_row (pe pl : Addr) (b : Int) (w : World) (hb : (Lit.int .u8 b).wf = true) (he : Env w.heap.size pe pl w) :
    Calls Tryd.prog 12 #[.int .u8 b] w fun e w' => e = .returned (.bool true) ∧ Below w.heap.size w w' := by
  obtain ⟨g0, g1⟩ := u8_bd hb
  obtain ⟨m, rfl⟩ := Int.eq_ofNat_of_zero_le g0
  exact paneOf_walk pe pl m (by omega) w he
end Go.Proofs.YtgdbeiadlgkedaaDoor

/- The walk of the statement on a row's nil bits. -/
namespace Go.Proofs.YtgdbeiadlgkedaaDoor
open Go.RowKit
open Go.Joins (below_bytesWorld)
set_option linter.unusedVariables false
set_option linter.unusedSimpArgs false

theorem bytes_at (w : World) (s : ByteArray) : At (Lib.bytesWorld w 5 s) ⟨w.heap.size, 0, none⟩ s.data.toList := At.mk fun j x hj => by
  have hjl : j < s.size := by have := (List.getElem?_eq_some_iff.1 hj).1; rwa [Array.length_toList] at this
  have := Lib.bytesWorld_cell w 5 s j hjl
  rw [List.getD_eq_getElem?_getD, hj] at this
  exact this
theorem nilBit (x : UInt8) (m : Nat) : (bits .and .u8 ((x.toNat : Int) / 2 ^ m) 1 == 1) = decide (x.toNat / 2 ^ m % 2 = 1) := by
  have e : (x.toNat : Int) / 2 ^ m = ((x.toNat / 2 ^ m : Nat) : Int) := by
    rw [Int.natCast_ediv, Int.natCast_pow]; rfl
  rw [e, and1 _ (Nat.lt_of_le_of_lt (Nat.div_le_self _ _) x.toNat_lt)]
  rcases (show x.toNat / 2 ^ m % 2 = 1 ∨ x.toNat / 2 ^ m % 2 = 0 by omega) with h | h <;> rw [h] <;> rfl
set_option maxHeartbeats 4000000 in
set_option maxRecDepth 100000 in
theorem isNil_in (b c : Nat) (s : ByteArray) (f : Nat) (x : UInt8) (w : World) (hf : f < 9223372036854775808) (hx : s.data.toList[f / 8]? = some x) (ha : w.cell? ⟨b, f / 8, none⟩ = some (.int .u8 x.toNat)) :
    Calls Tryd.prog 88 #[.slice (some ⟨b, 0, none⟩) s.size c, .int .i64 f] w fun e w' => e = .returned (.bool (x.toNat / 2 ^ (f % 8) % 2 = 1)) ∧ w = w' := by
  obtain ⟨q, hq⟩ : ∃ q, Hid (f / 8 = q) := ⟨_, Lib.hid rfl⟩
  obtain ⟨m, hm⟩ : ∃ m, Hid (f % 8 = m) := ⟨_, Lib.hid rfl⟩
  have a1 : (f : Int).tdiv 8 = (q : Int) := by rw [← hq.out]; exact (Int.ofNat_tdiv f 8).symm
  have a2 : (f : Int).tmod 8 = (m : Int) := by rw [← hm.out]; exact (Int.ofNat_tmod f 8).symm
  have a3 : wrap64 (q : Int) = (q : Int) := by have := hq.out; unfold wrap64; omega
  have a4 : wrap64 (m : Int) = (m : Int) := by have := hm.out; unfold wrap64; omega
  have a5 : (m : Int) % 256 = (m : Int) := by have := hm.out; omega
  have a6 : (m : Int) < 8 := by have := hm.out; omega
  have a7 : m < 8 := by have := hm.out; omega
  have hl : q < s.size := by
    have h1 := (List.getElem?_eq_some_iff.1 hx).1
    rw [Array.length_toList] at h1
    have := hq.out
    show q < s.data.size
    omega
  have h02 : ((s.size : Int) != 0) = true := by rw [bne_iff_ne]; omega
  have hl2 : (q : Int) < (s.size : Int) := by omega
  have hbit := nilBit x m
  rw [hq.out] at ha
  rw [hm.out]
  clear hx hf
  go_enter Tryd.func88, Tryd.ntmps88
  go_wp2
  go_ret
  exact ⟨rfl, rfl⟩
set_option maxHeartbeats 4000000 in
set_option maxRecDepth 100000 in
theorem isNil_out (b c : Nat) (s : ByteArray) (f : Nat) (w : World) (hf : f < 9223372036854775808) (hx : ¬ f / 8 < s.size) :
    Calls Tryd.prog 88 #[.slice (some ⟨b, 0, none⟩) s.size c, .int .i64 f] w fun e w' => e = .returned (.bool false) ∧ w = w' := by
  obtain ⟨q, hq⟩ : ∃ q, Hid (f / 8 = q) := ⟨_, Lib.hid rfl⟩
  obtain ⟨m, hm⟩ : ∃ m, Hid (f % 8 = m) := ⟨_, Lib.hid rfl⟩
  have a1 : (f : Int).tdiv 8 = (q : Int) := by rw [← hq.out]; exact (Int.ofNat_tdiv f 8).symm
  have a2 : (f : Int).tmod 8 = (m : Int) := by rw [← hm.out]; exact (Int.ofNat_tmod f 8).symm
  have a3 : wrap64 (q : Int) = (q : Int) := by have := hq.out; unfold wrap64; omega
  have a4 : wrap64 (m : Int) = (m : Int) := by have := hm.out; unfold wrap64; omega
  have a5 : (m : Int) % 256 = (m : Int) := by have := hm.out; omega
  have a6 : (m : Int) < 8 := by have := hm.out; omega
  have a7 : m < 8 := by have := hm.out; omega
  have hl2 : ¬ (q : Int) < (s.size : Int) := by have := hq.out; omega
  clear hx hf
  go_enter Tryd.func88, Tryd.ntmps88
  go_wp2
  go_ret
  exact ⟨rfl, rfl⟩
set_option maxHeartbeats 4000000 in
set_option maxRecDepth 100000 in
theorem rowNil_in (s : ByteArray) (f : Nat) (x : UInt8) (w : World) (hf : f < 9223372036854775808) (hx : s.data.toList[f / 8]? = some x) :
    Calls Tryd.prog 36 #[.string s, .int .i64 f] w fun e w' => e = .returned (.bool (x.toNat / 2 ^ (f % 8) % 2 = 1)) ∧ w = w' := by
  obtain ⟨q, hq⟩ : ∃ q, Hid (f / 8 = q) := ⟨_, Lib.hid rfl⟩
  obtain ⟨m, hm⟩ : ∃ m, Hid (f % 8 = m) := ⟨_, Lib.hid rfl⟩
  have a1 : (f : Int).tdiv 8 = (q : Int) := by rw [← hq.out]; exact (Int.ofNat_tdiv f 8).symm
  have a2 : (f : Int).tmod 8 = (m : Int) := by rw [← hm.out]; exact (Int.ofNat_tmod f 8).symm
  have a3 : wrap64 (q : Int) = (q : Int) := by have := hq.out; unfold wrap64; omega
  have a4 : wrap64 (m : Int) = (m : Int) := by have := hm.out; unfold wrap64; omega
  have a5 : (m : Int) % 256 = (m : Int) := by have := hm.out; omega
  have a6 : (m : Int) < 8 := by have := hm.out; omega
  have a7 : m < 8 := by have := hm.out; omega
  have hl : q < s.size := by
    have h1 := (List.getElem?_eq_some_iff.1 hx).1
    rw [Array.length_toList] at h1
    have := hq.out
    show q < s.data.size
    omega
  have h02 : ((s.size : Int) != 0) = true := by rw [bne_iff_ne]; omega
  have hl2 : (q : Int) < (s.size : Int) := by omega
  have hbit := nilBit x m
  have hg : ∀ h : q < s.size, s[q]'h = x := by
    intro h
    have h2 : s.data.toList[q]? = some x := by rw [← hq.out]; exact hx
    obtain ⟨h3, h4⟩ := List.getElem?_eq_some_iff.1 h2
    rw [← h4]; rfl
  rw [hm.out]
  clear hx hf
  go_enter Tryd.func36, Tryd.ntmps36
  go_wp2
  go_ret
  exact ⟨rfl, rfl⟩
set_option maxHeartbeats 4000000 in
set_option maxRecDepth 100000 in
theorem rowNil_out (s : ByteArray) (f : Nat) (w : World) (hf : f < 9223372036854775808) (hx : ¬ f / 8 < s.size) :
    Calls Tryd.prog 36 #[.string s, .int .i64 f] w fun e w' => e = .returned (.bool false) ∧ w = w' := by
  obtain ⟨q, hq⟩ : ∃ q, Hid (f / 8 = q) := ⟨_, Lib.hid rfl⟩
  obtain ⟨m, hm⟩ : ∃ m, Hid (f % 8 = m) := ⟨_, Lib.hid rfl⟩
  have a1 : (f : Int).tdiv 8 = (q : Int) := by rw [← hq.out]; exact (Int.ofNat_tdiv f 8).symm
  have a2 : (f : Int).tmod 8 = (m : Int) := by rw [← hm.out]; exact (Int.ofNat_tmod f 8).symm
  have a3 : wrap64 (q : Int) = (q : Int) := by have := hq.out; unfold wrap64; omega
  have a4 : wrap64 (m : Int) = (m : Int) := by have := hm.out; unfold wrap64; omega
  have a5 : (m : Int) % 256 = (m : Int) := by have := hm.out; omega
  have a6 : (m : Int) < 8 := by have := hm.out; omega
  have a7 : m < 8 := by have := hm.out; omega
  have hl2 : ¬ (q : Int) < (s.size : Int) := by have := hq.out; omega
  clear hx hf
  go_enter Tryd.func36, Tryd.ntmps36
  go_wp2
  go_ret
  exact ⟨rfl, rfl⟩
def nilOf (s : ByteArray) (f : Nat) : Bool := match s.data.toList[f / 8]? with | some x => decide (x.toNat / 2 ^ (f % 8) % 2 = 1) | none => false
theorem rowNil_any (s : ByteArray) (f : Nat) (w : World) (hf : f < 9223372036854775808) :
    Calls Tryd.prog 36 #[.string s, .int .i64 f] w fun e w' => e = .returned (.bool (nilOf s f)) ∧ w = w' := by
  unfold nilOf
  split
  · rename_i x hx; exact rowNil_in s f x w hf hx
  · rename_i hx
    refine rowNil_out s f w hf ?_
    rw [List.getElem?_eq_none_iff, Array.length_toList] at hx
    exact Nat.not_lt.2 hx
theorem isNil_any (b c : Nat) (s : ByteArray) (f : Nat) (w : World) (hf : f < 9223372036854775808) (ha : At w ⟨b, 0, none⟩ s.data.toList) :
    Calls Tryd.prog 88 #[.slice (some ⟨b, 0, none⟩) s.size c, .int .i64 f] w fun e w' => e = .returned (.bool (nilOf s f)) ∧ w = w' := by
  unfold nilOf
  split
  · rename_i x hx
    refine isNil_in b c s f x w hf hx ?_
    have := ha.get hx
    rwa [Nat.zero_add] at this
  · rename_i hx
    refine isNil_out b c s f w hf ?_
    rw [List.getElem?_eq_none_iff, Array.length_toList] at hx
    exact Nat.not_lt.2 hx
set_option maxHeartbeats 4000000 in
set_option maxRecDepth 100000 in
theorem implNil_any (s : ByteArray) (f : Nat) (w : World) (hf : f < 9223372036854775808) :
    Calls Tryd.prog 35 #[.string s, .int .i64 f] w fun e w' => e = .returned (.bool (nilOf s f)) ∧ Below w.heap.size w w' := by
  have kc := conv_bytes
  have HF := Lib.hid hf
  clear hf
  go_enter Tryd.func35, Tryd.ntmps35
  go_wp2_with (go_at_call 88; go_loud (refine (isNil_any w.heap.size _ s f (Lib.bytesWorld w 5 s) HF.out (bytes_at w s)).mono ?_; rintro e_ w1 ⟨rfl, rfl⟩))
  go_ret
  exact ⟨rfl, below_bytesWorld _ w _ s (Nat.le_refl _)⟩
set_option maxHeartbeats 4000000 in
set_option maxRecDepth 100000 in
theorem fieldNil_row (pe pl : Addr) (s : ByteArray) (f : Int) (w : World) (hf : (Lit.int .i64 f).wf = true) (he : Env w.heap.size pe pl w) :
    Calls Tryd.prog 14 #[.string s, .int .i64 f] w fun e w' => e = .returned (.bool true) ∧ Below w.heap.size w w' := by
  have HE := Lib.hid he
  by_cases h1 : 2147483647 < s.size
  · have hc : 2147483647 < (s.size : Int) := by omega
    clear he hf h1
    go_enter Tryd.func14, Tryd.ntmps14
    go_wp2
    go_ret
    exact ⟨rfl, Below.refl _ w⟩
  · have hc : ¬ 2147483647 < (s.size : Int) := by omega
    by_cases h2 : 100 < s.size
    · have hc2 : 100 < (s.size : Int) := by omega
      clear he hf h1 h2
      go_enter Tryd.func14, Tryd.ntmps14
      go_wp2_with (go_at_call 21; go_loud (refine (awake_any w.heap.size pe pl w HE.out (Nat.le_refl _)).mono ?_; rintro e_ w1 ⟨rfl, hb1⟩; have HB1 := Lib.hid hb1; clear hb1))
      go_ret
      exact ⟨rfl, HB1.out⟩
    · have hc2 : ¬ 100 < (s.size : Int) := by omega
      by_cases h3 : f < 0
      · clear he hf h1 h2
        go_enter Tryd.func14, Tryd.ntmps14
        go_wp2_with (go_at_call 21; go_loud (refine (awake_any w.heap.size pe pl w HE.out (Nat.le_refl _)).mono ?_; rintro e_ w1 ⟨rfl, hb1⟩; have HB1 := Lib.hid hb1; clear hb1))
        go_ret
        exact ⟨rfl, HB1.out⟩
      · obtain ⟨k, rfl⟩ := Int.eq_ofNat_of_zero_le (show 0 ≤ f by omega)
        have HF := Lib.hid (show k < 9223372036854775808 by have := i64_bd hf; omega)
        clear he hf h1 h2 h3
        go_enter Tryd.func14, Tryd.ntmps14
        go_wp2_with (first
          | (go_at_call 35; go_loud (refine (implNil_any s k w1 HF.out).mono ?_; rintro e_ w2 ⟨rfl, hb2⟩; have HB2 := Lib.hid (HB1.out.trans (hb2.mono HB1.out.size)); clear hb2))
          | (go_at_call 36; go_loud (refine (rowNil_any s k w2 HF.out).mono ?_; rintro e_ w3 ⟨rfl, rfl⟩))
          | (go_at_call 21; go_loud (refine (awake_any w.heap.size pe pl w HE.out (Nat.le_refl _)).mono ?_; rintro e_ w1 ⟨rfl, hb1⟩; have HB1 := Lib.hid hb1; clear hb1)))
        go_ret
        exact ⟨rfl, HB2.out⟩
end Go.Proofs.YtgdbeiadlgkedaaDoor

/- The walk of the statement on reads of n bytes. -/
namespace Go.Proofs.YtgdbeiadlgkedaaDoor
open Go.RowKit
open Go.Joins (below_bytesWorld)
set_option linter.unusedVariables false
set_option linter.unusedSimpArgs false

def mkz (n : Nat) : Obj := .cells (madeCells #[.int .u8 0] (n * 1)) 5
theorem mk_bytes (n : Nat) (hn : n ≤ 1000000) : ∀ W : World, (Instr.makeSlice 29 (.int .i64 (n : Int)) (.int .i64 (n : Int))).run Tryd.prog W = .ok (.slice (some ⟨W.heap.size, 0, none⟩) n n) (W.alloc (mkz n)) := by
  intro W
  have hm : (Tryd.prog.info? 5).map (fun i => (i.zero, i.size, i.bytes)) = some (some (.int .u8 0), 1, 1) := by kernel_rfl
  obtain ⟨i, hi, he⟩ := Option.map_eq_some_iff.1 hm
  simp only [Prod.mk.injEq] at he
  obtain ⟨hz, hs, hb⟩ := he
  have h := run_makeSlice (P := Tryd.prog) W 29 5 i _ Tryd.underlying29 hi hz .i64 .i64 (n : Int) (n : Int) (by omega) (Int.le_refl _) (by rw [hs]; simp; omega) (by rw [hb]; simp; omega) (by omega)
  rw [hs, show (Value.int .u8 0).cells = #[.int .u8 0] from rfl] at h
  simpa [mkz] using h
theorem mkz_size (n : Nat) : (madeCells #[.int .u8 0] (n * 1)).size = n := by rw [size_madeCells, Nat.mul_one]
set_option maxHeartbeats 4000000 in
set_option maxRecDepth 100000 in
/-- ReadN where there are enough bytes. -/
theorem readN_some (r g : Nat) (l : List UInt8) (n : Nat) (w : World) (h : Rd r g l 0 w) (hn0 : 0 < n) (hn : n ≤ l.length) (hn2 : n ≤ 1000000) :
    Calls Tryd.prog 87 #[rdI r, .int .i64 n] w fun e w' => e = .returned (.tuple #[.slice (some ⟨w.heap.size, 0, none⟩) n n, .nilIface]) ∧ At w' ⟨w.heap.size, 0, none⟩ (l.take n) ∧ w.grownBy w' (some r) := by
  have na := na_read (some ⟨r, 0, none⟩)
  have km := mk_bytes n hn2
  have hne := h.ge (mkz n)
  have H := Lib.hid (h.alloc (mkz n))
  have HD := Lib.hid (heap_alloc_new w (mkz n))
  have HN := Lib.hid (And.intro hn0 (And.intro hn hn2))
  have HZ := Lib.hid (mkz_size n)
  have hw : wrap64 (n : Int) = (n : Int) := IntWalk.wrap64_in _ (by omega)
  have hz : ¬ n = 0 := by omega
  have HNE := Lib.hid hne
  clear h hn0 hn hn2 hne
  go_enter Tryd.func87, Tryd.ntmps87
  go_wp2
  refine wp_loop_rounds 1 ?_; rw [rounds_succ]
  go_wp2
  go_region_with (go_at_call 127; go_loud (refine (read_some r g l 0 w.heap.size 0 n n n (madeCells #[.int .u8 0] (n * 1)) 5 _ ?_ (by have := HN.out; omega) ?_ HNE.out.1 HNE.out.2 (by have := HN.out; omega) (by rw [HZ.out]; omega)).mono ?_; exact H.out.drewN 1; exact HD.out; rintro e_ w1 ⟨rfl, h1, h2, h3⟩; have H1 := Lib.hid (And.intro h1 (And.intro h2 h3)); clear h1 h2 h3))
  go_wp2
  go_ret2
  obtain ⟨a1, a2, a3⟩ := H1.out
  refine ⟨rfl, ?_, ?_⟩
  · refine At.mk fun j x hj => (blk_cell a2 j).trans (laidAt_get ?_)
    simpa using hj
  · exact Two.grown (grown_alloc (grown_refl (r := r) w) _) (((Two.refl r w.heap.size _).drewN 1).trans a3) (Nat.le_refl _)
set_option maxHeartbeats 4000000 in
set_option maxRecDepth 100000 in
/-- ReadN of no byte, where there are some. -/
theorem readN_zero (r g : Nat) (l : List UInt8) (w : World) (h : Rd r g l 0 w) (hl : 0 < l.length) :
    Calls Tryd.prog 87 #[rdI r, .int .i64 0] w fun e w' => e = .returned (.tuple #[.slice (some ⟨w.heap.size, 0, none⟩) 0 0, .nilIface]) ∧ w.grownBy w' (some r) := by
  have na := na_read (some ⟨r, 0, none⟩)
  have km : ∀ W : World, (Instr.makeSlice 29 (.int .i64 0) (.int .i64 0)).run Tryd.prog W = .ok (.slice (some ⟨W.heap.size, 0, none⟩) 0 0) (W.alloc (mkz 0)) := fun W => mk_bytes 0 (by omega) W
  have hne := h.ge (mkz 0)
  have H := Lib.hid (h.alloc (mkz 0))
  have HD := Lib.hid (heap_alloc_new w (mkz 0))
  have HN := Lib.hid hl
  have HNE := Lib.hid hne
  clear h hl hne
  go_enter Tryd.func87, Tryd.ntmps87
  go_wp2
  refine wp_loop_rounds 1 ?_; rw [rounds_succ]
  go_wp2
  go_region_with (go_at_call 127; go_loud (refine (read_some r g l 0 w.heap.size 0 0 0 0 (madeCells #[.int .u8 0] (0 * 1)) 5 _ ?_ (by have := HN.out; omega) ?_ HNE.out.1 HNE.out.2 (by omega) (by omega)).mono ?_; exact H.out.drewN 1; exact HD.out; rintro e_ w1 ⟨rfl, h1, h2, h3⟩; have H1 := Lib.hid (And.intro h1 (And.intro h2 h3)); clear h1 h2 h3))
  go_wp2
  go_ret2
  obtain ⟨a1, a2, a3⟩ := H1.out
  exact ⟨rfl, Two.grown (grown_alloc (grown_refl (r := r) w) _) (((Two.refl r w.heap.size _).drewN 1).trans a3) (Nat.le_refl _)⟩
set_option maxHeartbeats 4000000 in
set_option maxRecDepth 100000 in
/-- ReadN of no byte at the end. -/
theorem readN_zero0 (r g : Nat) (l : List UInt8) (ev : Value) (w : World) (h : Rd r g l l.length w) (he : w.cell? ⟨0, 0, none⟩ = some ev) :
    Calls Tryd.prog 87 #[rdI r, .int .i64 0] w fun e w' => e = .returned (.tuple #[.slice (some ⟨w.heap.size, 0, none⟩) 0 0, .nilIface]) ∧ w.grownBy w' (some r) := by
  have na := na_read (some ⟨r, 0, none⟩)
  have km : ∀ W : World, (Instr.makeSlice 29 (.int .i64 0) (.int .i64 0)).run Tryd.prog W = .ok (.slice (some ⟨W.heap.size, 0, none⟩) 0 0) (W.alloc (mkz 0)) := fun W => mk_bytes 0 (by omega) W
  have H := Lib.hid (h.alloc (mkz 0))
  have HE := Lib.hid (show (w.alloc (mkz 0)).cell? ⟨0, 0, none⟩ = some ev from (World.cell?_of_block (a := ⟨0, 0, none⟩) (Below.heap_alloc w (mkz 0) _ (World.block_lt_of_cell? w _ he))).trans he)
  clear h he
  go_enter Tryd.func87, Tryd.ntmps87
  go_wp2
  refine wp_loop_rounds 1 ?_; rw [rounds_succ]
  go_wp2
  go_region_with (go_at_call 127; refine (read_end r g l _ _ _ ev _ ?_ ?_).mono ?_; exact H.out.drewN 1; exact HE.out; rintro e_ w1 ⟨rfl, q1, hq⟩; have HQ := Lib.hid hq; clear hq)
  go_wp2
  go_ret2
  exact ⟨rfl, by rw [HQ.out]; exact grown_drewN (grown_drewN (grown_alloc (grown_refl (r := r) w) _) 1) q1⟩
set_option maxHeartbeats 4000000 in
set_option maxRecDepth 100000 in
/-- ReadN at the end, for some bytes. -/
theorem readN_eof (r g : Nat) (l : List UInt8) (n : Nat) (te : TypeId) (pe : Value) (w : World) (h : Rd r g l l.length w) (he : w.cell? ⟨0, 0, none⟩ = some (.iface te pe)) (hn : 0 < n) (hn2 : n ≤ 1000000) :
    Calls Tryd.prog 87 #[rdI r, .int .i64 n] w fun e w' => e = .returned (.tuple #[.slice none 0 0, .iface te pe]) ∧ w.grownBy w' (some r) := by
  have na := na_read (some ⟨r, 0, none⟩)
  have km := mk_bytes n hn2
  have H := Lib.hid (h.alloc (mkz n))
  have HE := Lib.hid (show (w.alloc (mkz n)).cell? ⟨0, 0, none⟩ = some (.iface te pe) from (World.cell?_of_block (a := ⟨0, 0, none⟩) (Below.heap_alloc w (mkz n) _ (World.block_lt_of_cell? w _ he))).trans he)
  have hz : ¬ n = 0 := by omega
  have hw0 : ((0 : Int) == (n : Int)) = false := beq_eq_false_iff_ne.mpr (by omega)
  clear h he
  go_enter Tryd.func87, Tryd.ntmps87
  go_wp2
  refine wp_loop_rounds 1 ?_; rw [rounds_succ]
  go_wp2
  go_region_with (go_at_call 127; refine (read_end r g l _ _ _ (.iface te pe) _ ?_ ?_).mono ?_; exact H.out.drewN 1; exact HE.out; rintro e_ w1 ⟨rfl, q1, hq⟩; have HQ := Lib.hid hq; clear hq)
  go_wp2
  go_ret2
  exact ⟨rfl, by rw [HQ.out]; exact grown_drewN (grown_drewN (grown_alloc (grown_refl (r := r) w) _) 1) q1⟩
set_option maxHeartbeats 4000000 in
set_option maxRecDepth 100000 in
/-- ReadN where there are some bytes, but too few. -/
theorem readN_few (r g : Nat) (l : List UInt8) (n : Nat) (te : TypeId) (pe : Value) (w : World) (h : Rd r g l 0 w) (hi : 0 < l.length) (hn : l.length < n) (he : w.cell? ⟨0, 0, none⟩ = some (.iface te pe)) (her : 0 ≠ r) (hn2 : n ≤ 1000000) :
    Calls Tryd.prog 87 #[rdI r, .int .i64 n] w fun e w' => e = .returned (.tuple #[.slice none 0 0, .iface te pe]) ∧ w.grownBy w' (some r) := by
  have na := na_read (some ⟨r, 0, none⟩)
  have km := mk_bytes n hn2
  obtain ⟨m, hm⟩ : ∃ m, m = l.length := ⟨_, rfl⟩
  have hne := h.ge (mkz n)
  have hlt := World.block_lt_of_cell? w _ he
  have H := Lib.hid (h.alloc (mkz n))
  have HD := Lib.hid (heap_alloc_new w (mkz n))
  have HE := Lib.hid (show (w.alloc (mkz n)).cell? ⟨0, 0, none⟩ = some (.iface te pe) from (World.cell?_of_block (a := ⟨0, 0, none⟩) (Below.heap_alloc w (mkz n) _ hlt)).trans he)
  have HED := Lib.hid (show 0 ≠ w.heap.size from Nat.ne_of_lt hlt)
  have HL := Lib.hid h.len
  have HI := Lib.hid hi
  have HN := Lib.hid hn
  have HZ := Lib.hid (mkz_size n)
  have hz : ¬ n = 0 := by omega
  have hz2 : ¬ n = m := by omega
  have hz3 : (m : Int) ≤ (n : Int) := by omega
  have hz4 : m ≤ n := by omega
  have hw : wrap64 (m : Int) = (m : Int) := IntWalk.wrap64_in _ (by have := HL.out; omega)
  have q1 : ((m : Int) == (n : Int)) = false := beq_eq_false_iff_ne.mpr (by omega)
  have q2 : ((m : Int) == 0) = false := beq_eq_false_iff_ne.mpr (by omega)
  have HM := Lib.hid hm
  have HNE := Lib.hid hne
  have HER := Lib.hid her
  clear h he hi hn hm her hn2 hne hlt
  go_enter Tryd.func87, Tryd.ntmps87
  go_wp2
  refine wp_loop_rounds 2 ?_; rw [rounds_succ]
  go_wp2
  go_region_with (go_at_call 127; go_loud (refine (read_some r g l 0 w.heap.size 0 n n m (madeCells #[.int .u8 0] (n * 1)) 5 _ ?_ HI.out ?_ HNE.out.1 HNE.out.2 (by have := HM.out; have := HN.out; omega) (by rw [HZ.out]; omega)).mono ?_; exact H.out.drewN 1; exact HD.out; rintro e_ w1 ⟨rfl, h1, h2, h3⟩; have H1 := Lib.hid (And.intro h1 (And.intro h2 h3)); clear h1 h2 h3))
  go_wp2
  rw [rounds_succ]
  go_wp2
  have hil : 0 + m = l.length := by have := HM.out; omega
  have R1 := Lib.hid (hil ▸ H1.out.1)
  have E1 : w1.cell? ⟨0, 0, none⟩ = some (.iface te pe) := (World.cell?_of_block (a := ⟨0, 0, none⟩) (H1.out.2.2.block _ (World.block_lt_of_cell? _ _ HE.out) HER.out HED.out)).trans HE.out
  have HE1 := Lib.hid E1
  clear E1 hil
  go_region_with (go_at_call 127; refine (read_end r g l _ _ _ (.iface te pe) _ ?_ ?_).mono ?_; exact R1.out.drewN 1; exact HE1.out; rintro e_ w2 ⟨rfl, q3, hq⟩; have HQ := Lib.hid hq; clear hq)
  go_wp2
  go_ret2
  refine ⟨rfl, ?_⟩
  rw [HQ.out]
  exact grown_drewN (grown_drewN (Two.grown (grown_alloc (grown_refl (r := r) w) _) (((Two.refl r w.heap.size _).drewN 1).trans H1.out.2.2) (Nat.le_refl _)) 1) q3
end Go.Proofs.YtgdbeiadlgkedaaDoor

/- The walk of the statement on reads of n bytes: the door and the law. -/
namespace Go.Proofs.YtgdbeiadlgkedaaDoor
open Go.RowKit
open Go.Joins (below_bytesWorld)
set_option linter.unusedVariables false
set_option linter.unusedSimpArgs false

theorem conv_back (W : World) (d n : Nat) (l : List UInt8) (h : At W ⟨d, 0, none⟩ l) (hl : l.length = n) :
    (convert 29 9 (.slice (some ⟨d, 0, none⟩) n n)).run Tryd.prog W.drew = .ok (.string ⟨l.toArray⟩) W.drew := by
  subst hl
  exact run_convert_bytes_back (P := Tryd.prog) W.drew 29 9 5 ⟨d, 0, none⟩ l.length l Tryd.underlying29 Tryd.underlying5 Tryd.underlying9 (fun j hj => by
    rw [Lib.addr_add]
    exact h.get (List.getElem?_eq_getElem hj))
theorem rn_start {w w1 : World} {B r : Nat} {pe pl : Addr} (hB : B ≤ w.heap.size) (he : Env B pe pl w) (hw : Below w.heap.size w w1) (hr : w.heap.size < r) : Env B pe pl w1 ∧ B ≤ r ∧ B ≤ w1.heap.size :=
  ⟨he.below (hw.mono hB), by omega, by have := hw.size; omega⟩
set_option maxHeartbeats 4000000 in
set_option maxRecDepth 100000 in
theorem implReadN_some (s : ByteArray) (n : Nat) (w : World) (hs : s.size ≤ 4294967296) (hn0 : 0 < n) (hn : n ≤ s.size) (hn2 : n ≤ 1000000) :
    Calls Tryd.prog 34 #[.string s, .int .i64 n] w fun e w' => e = .returned (.tuple #[.string (s.extract 0 n), .string ⟨#[]⟩]) ∧ Below w.heap.size w w' := by
  have kc := conv_bytes
  have HS := Lib.hid (And.intro hs (And.intro hn0 (And.intro hn hn2)))
  have HL := Lib.hid (show s.data.toList.length = s.size by rw [Array.length_toList]; rfl)
  have HX := Lib.hid (show (⟨(s.data.toList.take n).toArray⟩ : ByteArray) = s.extract 0 n by apply Eq.symm; apply str_ext; rw [Lib.extract_data, List.drop_zero, Nat.sub_zero])
  clear hs hn0 hn hn2
  go_enter Tryd.func34, Tryd.ntmps34
  go_wp2_with (first
    | (go_at_call 45; go_loud (refine (newRd_any w w.heap.size rfl s HS.out.1).mono ?_; rintro e_ w1 ⟨r, rfl, hr1, hr2, hr3⟩; have HR := Lib.hid (And.intro hr1 (And.intro hr2 hr3)); clear hr1 hr2 hr3))
    | (go_at_call 87; go_loud (refine (readN_some r w.heap.size s.data.toList n w1 HR.out.1 HS.out.2.1 (by rw [HL.out]; exact HS.out.2.2.1) HS.out.2.2.2).mono ?_; rintro e_ w2 ⟨rfl, h1, h2⟩; have kb := conv_back w2 w1.heap.size n _ h1 (by rw [List.length_take, HL.out]; exact Nat.min_eq_left HS.out.2.2.1); rw [HX.out] at kb; have HB := Lib.hid (HR.out.2.1.trans (grown_below h2 HR.out.2.1.size (Nat.le_of_lt HR.out.2.2))); clear h1 h2)))
  go_region_with (go_at_call 63; refine (word_nil _).mono ?_; rintro e_ w5 ⟨rfl, rfl⟩)
  all_goals
    go_wp2
    go_ret2
    exact ⟨rfl, HB.out.drew⟩
theorem conv_none : ∀ (W : World), (convert 29 9 (.slice none 0 0)).run Tryd.prog W = .ok (.string ⟨#[]⟩) W := fun W => by kernel_rfl
theorem conv_zero (W : World) (d : Nat) :
    (convert 29 9 (.slice (some ⟨d, 0, none⟩) 0 0)).run Tryd.prog W.drew = .ok (.string ⟨#[]⟩) W.drew := conv_back W d 0 [] (At.mk fun j x hj => by simp at hj) rfl
set_option maxHeartbeats 4000000 in
set_option maxRecDepth 100000 in
theorem implReadN_zero (s : ByteArray) (B : Nat) (pe pl : Addr) (w : World) (hs : s.size ≤ 4294967296) (hB : B ≤ w.heap.size) (he : Env B pe pl w) :
    Calls Tryd.prog 34 #[.string s, .int .i64 0] w fun e w' => e = .returned (.tuple #[.string ⟨#[]⟩, .string ⟨#[]⟩]) ∧ Below w.heap.size w w' := by
  have kc := conv_bytes
  have kz := conv_zero
  have HS := Lib.hid (And.intro hs (And.intro hB he))
  clear hs hB he
  have HC : Hid (∀ (r : Nat) (w1 : World), Rd r w.heap.size s.data.toList 0 w1 → Env B pe pl w1 → Calls Tryd.prog 87 #[rdI r, .int .i64 0] w1 fun e w' => e = .returned (.tuple #[.slice (some ⟨w1.heap.size, 0, none⟩) 0 0, .nilIface]) ∧ w1.grownBy w' (some r)) := Lib.hid (fun r w1 h1 h2 => by
    by_cases h0 : s.data.toList.length = 0
    · exact readN_zero0 r w.heap.size s.data.toList _ w1 (by rw [h0]; exact h1) h2.eof
    · exact readN_zero r w.heap.size s.data.toList w1 h1 (by omega))
  go_enter Tryd.func34, Tryd.ntmps34
  go_wp2_with (first
    | (go_at_call 45; go_loud (refine (newRd_any w w.heap.size rfl s HS.out.1).mono ?_; rintro e_ w1 ⟨r, rfl, hr1, hr2, hr3⟩; have HR := Lib.hid (And.intro hr1 (And.intro hr2 hr3)); clear hr1 hr2 hr3))
    | (go_at_call 87; go_loud (refine (HC.out r w1 HR.out.1 (rn_start HS.out.2.1 HS.out.2.2 HR.out.2.1 HR.out.2.2).1).mono ?_; rintro e_ w2 ⟨rfl, h2⟩; have HB := Lib.hid (HR.out.2.1.trans (grown_below h2 HR.out.2.1.size (Nat.le_of_lt HR.out.2.2))); clear h2)))
  go_region_with (go_at_call 63; refine (word_nil _).mono ?_; rintro e_ w5 ⟨rfl, rfl⟩)
  all_goals
    go_wp2
    go_ret2
    exact ⟨rfl, HB.out.drew⟩
set_option maxHeartbeats 4000000 in
set_option maxRecDepth 100000 in
theorem implReadN_bad (s : ByteArray) (n : Nat) (B : Nat) (pe pl : Addr) (w : World) (hs : s.size ≤ 4294967296) (hB : B ≤ w.heap.size) (he : Env B pe pl w) (hn : s.size < n) (hn2 : n ≤ 1000000) :
    Calls Tryd.prog 34 #[.string s, .int .i64 n] w fun e w' => ∃ es : ByteArray, e = .returned (.tuple #[.string ⟨#[]⟩, .string es]) ∧ es.data.toList ≠ [] ∧ Below w.heap.size w w' := by
  have kc := conv_bytes
  have kz := conv_none
  have HS := Lib.hid (And.intro hs (And.intro hB he))
  have HN := Lib.hid (And.intro hn hn2)
  have HL := Lib.hid (show s.data.toList.length = s.size by rw [Array.length_toList]; rfl)
  clear hs hB he hn hn2
  have HC : Hid (∀ (r : Nat) (w1 : World), Rd r w.heap.size s.data.toList 0 w1 → w.heap.size < r → Env B pe pl w1 → Calls Tryd.prog 87 #[rdI r, .int .i64 n] w1 fun e w' => e = .returned (.tuple #[.slice none 0 0, errV pe]) ∧ w1.grownBy w' (some r)) := Lib.hid (fun r w1 h1 hr h2 => by
    by_cases h0 : s.data.toList.length = 0
    · exact readN_eof r w.heap.size s.data.toList n _ _ w1 (by rw [h0]; exact h1) h2.eof (by have := HN.out; omega) HN.out.2
    · exact readN_few r w.heap.size s.data.toList n _ _ w1 h1 (by omega) (by rw [HL.out]; exact HN.out.1) h2.eof (by have := h2.b0; have := HS.out.2.1; omega) HN.out.2)
  go_enter Tryd.func34, Tryd.ntmps34
  go_wp2_with (first
    | (go_at_call 45; go_loud (refine (newRd_any w w.heap.size rfl s HS.out.1).mono ?_; rintro e_ w1 ⟨r, rfl, hr1, hr2, hr3⟩; have HR := Lib.hid (And.intro hr1 (And.intro hr2 hr3)); clear hr1 hr2 hr3))
    | (go_at_call 87; go_loud (refine (HC.out r w1 HR.out.1 HR.out.2.2 (rn_start HS.out.2.1 HS.out.2.2 HR.out.2.1 HR.out.2.2).1).mono ?_; rintro e_ w2 ⟨rfl, h2⟩; have HB0 := Lib.hid (HR.out.2.1.trans (grown_below h2 HR.out.2.1.size (Nat.le_of_lt HR.out.2.2))); clear h2)))
  obtain ⟨es, hes, hne⟩ := (HS.out.2.2.below (HB0.out.mono HS.out.2.1)).te
  have HES := Lib.hid (And.intro hes hne)
  clear hes hne
  go_region_with (go_at_call 63; refine (word_err pe es _ ?wd).mono ?_; (case wd => exact HES.out.1); rintro e_ w5 ⟨rfl, rfl⟩)
  all_goals
    go_wp2
    go_ret2
    exact ⟨es, rfl, HES.out.2, HB0.out.drew⟩
set_option maxHeartbeats 4000000 in
set_option maxRecDepth 100000 in
theorem readN_row (pe pl : Addr) (s : ByteArray) (f : Int) (w : World) (hf : (Lit.int .i64 f).wf = true) (he : Env w.heap.size pe pl w) :
    Calls Tryd.prog 13 #[.string s, .int .i64 f] w fun e w' => e = .returned (.bool true) ∧ Below w.heap.size w w' := by
  have HE := Lib.hid he
  by_cases h1 : 2147483647 < s.size
  · have hc : 2147483647 < (s.size : Int) := by omega
    clear he hf h1
    go_enter Tryd.func13, Tryd.ntmps13
    go_wp2
    go_ret
    exact ⟨rfl, Below.refl _ w⟩
  · have hc : ¬ 2147483647 < (s.size : Int) := by omega
    have HA := Lib.hid (awake_any w.heap.size pe pl w he (Nat.le_refl _))
    by_cases h2 : 400 < s.size
    · have hc2 : 400 < (s.size : Int) := by omega
      clear he hf h1 h2
      go_enter Tryd.func13, Tryd.ntmps13
      go_wp2_with (go_at_call 21; go_loud (refine HA.out.mono ?_; rintro e_ w1 ⟨rfl, hb1⟩; have HB1 := Lib.hid hb1; clear hb1))
      go_ret
      exact ⟨rfl, HB1.out⟩
    · have hc2 : ¬ 400 < (s.size : Int) := by omega
      by_cases h3 : f < 0
      · clear he hf h1 h2
        go_enter Tryd.func13, Tryd.ntmps13
        go_wp2_with (go_at_call 21; go_loud (refine HA.out.mono ?_; rintro e_ w1 ⟨rfl, hb1⟩; have HB1 := Lib.hid hb1; clear hb1))
        go_ret
        exact ⟨rfl, HB1.out⟩
      · by_cases h4 : 1000000 < f
        · clear he hf h1 h2
          go_enter Tryd.func13, Tryd.ntmps13
          go_wp2_with (go_at_call 21; go_loud (refine HA.out.mono ?_; rintro e_ w1 ⟨rfl, hb1⟩; have HB1 := Lib.hid hb1; clear hb1))
          go_ret
          exact ⟨rfl, HB1.out⟩
        · obtain ⟨k, rfl⟩ := Int.eq_ofNat_of_zero_le (show 0 ≤ f by omega)
          have HF := Lib.hid (show s.size ≤ 4294967296 ∧ k ≤ 1000000 by omega)
          have h4' : ¬ 1000000 < (k : Int) := h4
          by_cases h5 : s.size < k
          · have hc5 : (s.size : Int) < (k : Int) := by omega
            have H5 := Lib.hid h5
            clear he hf h1 h2 h3 h4 h5
            go_enter Tryd.func13, Tryd.ntmps13
            go_wp2_with (first
              | (go_at_call 34; go_loud (refine (implReadN_bad s k w.heap.size pe pl w HF.out.1 (Nat.le_refl _) HE.out H5.out HF.out.2).mono ?_; rintro e_ w1 ⟨es, rfl, hes, hb1⟩; have hne1 := ne_empty hes; have HB1 := Lib.hid hb1; clear hb1 hes))
              | (go_at_call 21; go_loud (refine (awake_any w.heap.size pe pl w1 (HE.out.below HB1.out) HB1.out.size).mono ?_; rintro e_ w2 ⟨rfl, hb2⟩; have HB2 := Lib.hid (HB1.out.trans (hb2.mono HB1.out.size)); clear hb2)))
            go_ret
            exact ⟨rfl, HB2.out⟩
          · have hc5 : ¬ (s.size : Int) < (k : Int) := by omega
            have hc6 : (k : Int) ≤ (s.size : Int) := by omega
            have hc7 : k ≤ s.size := by omega
            have HC : Hid (Calls Tryd.prog 34 #[.string s, .int .i64 k] w fun e w' => e = .returned (.tuple #[.string (s.extract 0 k), .string ⟨#[]⟩]) ∧ Below w.heap.size w w') := Lib.hid (by
              by_cases h0 : k = 0
              · subst h0
                have e0 : s.extract 0 0 = ⟨#[]⟩ := by apply str_ext; rw [Lib.extract_data]; simp
                rw [e0]
                exact implReadN_zero s w.heap.size pe pl w HF.out.1 (Nat.le_refl _) HE.out
              · exact implReadN_some s k w HF.out.1 (by omega) hc7 HF.out.2)
            clear he hf h1 h2 h3 h4 h5
            go_enter Tryd.func13, Tryd.ntmps13
            go_wp2_with (first
              | (go_at_call 34; go_loud (refine HC.out.mono ?_; rintro e_ w1 ⟨rfl, hb1⟩; have HB1 := Lib.hid hb1; clear hb1))
              | (go_at_call 21; go_loud (refine (awake_any w.heap.size pe pl w1 (HE.out.below HB1.out) HB1.out.size).mono ?_; rintro e_ w2 ⟨rfl, hb2⟩; have HB2 := Lib.hid (HB1.out.trans (hb2.mono HB1.out.size)); clear hb2)))
            go_ret
            exact ⟨rfl, HB2.out⟩
end Go.Proofs.YtgdbeiadlgkedaaDoor
