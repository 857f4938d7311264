/- Contracts and plain laws, several texts in one. -/
import Derived.Test.YtgdbeiadlgkedaaDoorMDecode9
import Derived.Shelf.Strings.Builder1
import Derived.Test.YtgdbeiadlgkedaaDoorProg
namespace Go.Proofs.YtgdbeiadlgkedaaDoor
open Go.RowKit
set_option linter.unusedVariables false
set_option linter.unusedSimpArgs false
theorem and1 (b : Nat) (h : b < 256) : bits .and .u8 (b : Int) 1 = ((b % 2 : Nat) : Int) := by
  have : ∀ b : Fin 256, bits .and .u8 ((b : Nat) : Int) 1 = (((b : Nat) % 2 : Nat) : Int) := by decide +kernel
  exact this ⟨b, h⟩
theorem and2 (b : Nat) (h : b < 256) : bits .and .u8 (b : Int) 2 = ((b / 2 % 2 * 2 : Nat) : Int) := by
  have : ∀ b : Fin 256, bits .and .u8 ((b : Nat) : Int) 2 = (((b : Nat) / 2 % 2 * 2 : Nat) : Int) := by decide +kernel
  exact this ⟨b, h⟩
theorem and3 (b : Nat) (h : b < 256) : bits .and .u8 (b : Int) 3 = ((b % 4 : Nat) : Int) := by
  have : ∀ b : Fin 256, bits .and .u8 ((b : Nat) : Int) 3 = (((b : Nat) % 4 : Nat) : Int) := by decide +kernel
  exact this ⟨b, h⟩
set_option maxHeartbeats 4000000 in
set_option maxRecDepth 100000 in
theorem noPane_any (w : World) :
    Calls Tryd.prog 107 #[] w fun e w' => e = .returned (.agg #[.int .u8 3, .bool true, .bool true, .int .i64 0, .int .i64 0]) ∧ Below w.heap.size w w' := by
  go_enter Tryd.func107, Tryd.ntmps107
  go_wp2
  obtain ⟨X, hX⟩ : ∃ X, X = w.alloc (.cells #[.int .u8 3, .bool true, .bool true, .int .i64 0, .int .i64 0] 100) := ⟨_, rfl⟩
  have hb : X.heap[w.heap.size]? = some (.cells #[.int .u8 3, .bool true, .bool true, .int .i64 0, .int .i64 0] 100 (0, 0)) := by rw [hX]; exact heap_alloc_new w _
  have HX := Lib.hid (show Below w.heap.size w X by rw [hX]; exact (Below.refl _ w).alloc (Nat.le_refl _) _)
  rw [← hX]
  clear hX
  have c0 : X.cell? ⟨w.heap.size, 0, none⟩ = some (.int .u8 3) := (blk_cell hb 0).trans rfl
  have c1 : X.cell? ⟨w.heap.size, 1, none⟩ = some (.bool true) := (blk_cell hb 1).trans rfl
  have c2 : X.cell? ⟨w.heap.size, 2, none⟩ = some (.bool true) := (blk_cell hb 2).trans rfl
  have c3 : X.cell? ⟨w.heap.size, 3, none⟩ = some (.int .i64 0) := (blk_cell hb 3).trans rfl
  have c4 : X.cell? ⟨w.heap.size, 4, none⟩ = some (.int .i64 0) := (blk_cell hb 4).trans rfl
  clear hb
  exact bodyPost_ret (v := .agg #[.int .u8 3, .bool true, .bool true, .int .i64 0, .int .i64 0]) (by simp [results, Tryd.results107, go_sem, c0, c1, c2, c3, c4]; try rfl) rfl ⟨rfl, HX.out⟩
set_option maxHeartbeats 4000000 in
set_option maxRecDepth 100000 in
theorem backPane_any (t : Nat) (f l : Bool) (i n : Int) (ht : t < 256) (w : World) :
    Calls Tryd.prog 54 #[.agg #[.int .u8 t, .bool f, .bool l, .int .i64 i, .int .i64 n]] w fun e w' => e = .returned (.agg #[.int .i64 t, .bool f, .bool l, .int .i64 i, .int .i64 n]) ∧ Below w.heap.size w w' := by
  have q1 : IntKind.i64.wrap (t : Int) = (t : Int) := IntWalk.i64_in _ (by omega)
  have q2 : wrap64 (t : Int) = (t : Int) := IntWalk.wrap64_in _ (by omega)
  clear ht
  go_enter Tryd.func54, Tryd.ntmps54
  go_wp2
  obtain ⟨X, hX⟩ : ∃ X, X = (w.alloc (.cells #[.int .u8 t, .bool f, .bool l, .int .i64 i, .int .i64 n] 100)).alloc (.cells #[.int .i64 t, .bool f, .bool l, .int .i64 i, .int .i64 n] 24) := ⟨_, rfl⟩
  have hb : X.heap[w.heap.size + 1]? = some (.cells #[.int .i64 t, .bool f, .bool l, .int .i64 i, .int .i64 n] 24 (0, 0)) := by rw [hX]; have := heap_alloc_new (w.alloc (.cells #[.int .u8 t, .bool f, .bool l, .int .i64 i, .int .i64 n] 100)) (.cells #[.int .i64 t, .bool f, .bool l, .int .i64 i, .int .i64 n] 24); rwa [World.size_alloc] at this
  have HX := Lib.hid (show Below w.heap.size w X by rw [hX]; exact ((Below.refl _ w).alloc (Nat.le_refl _) _).alloc (by rw [World.size_alloc]; omega) _)
  rw [← hX]
  clear hX
  have c0 : X.cell? ⟨w.heap.size + 1, 0, none⟩ = some (.int .i64 t) := (blk_cell hb 0).trans rfl
  have c1 : X.cell? ⟨w.heap.size + 1, 1, none⟩ = some (.bool f) := (blk_cell hb 1).trans rfl
  have c2 : X.cell? ⟨w.heap.size + 1, 2, none⟩ = some (.bool l) := (blk_cell hb 2).trans rfl
  have c3 : X.cell? ⟨w.heap.size + 1, 3, none⟩ = some (.int .i64 i) := (blk_cell hb 3).trans rfl
  have c4 : X.cell? ⟨w.heap.size + 1, 4, none⟩ = some (.int .i64 n) := (blk_cell hb 4).trans rfl
  clear hb
  exact bodyPost_ret (v := .agg #[.int .i64 t, .bool f, .bool l, .int .i64 i, .int .i64 n]) (by simp [results, Tryd.results54, go_sem, c0, c1, c2, c3, c4]; try rfl) rfl ⟨rfl, HX.out⟩
theorem set5 {W : World} {b : Nat} {a0 a1 a2 a3 a4 : Value} {T : TypeId} {fr : Nat × Nat} (h : W.heap[b]? = some (.cells #[a0, a1, a2, a3, a4] T fr)) (v0 v1 v2 v3 v4 : Value) :
    (((((W.setCell ⟨b, 0, none⟩ v0).setCell ⟨b, 1, none⟩ v1).setCell ⟨b, 2, none⟩ v2).setCell ⟨b, 3, none⟩ v3).setCell ⟨b, 4, none⟩ v4).heap[b]? = some (.cells #[v0, v1, v2, v3, v4] T fr) := by
  have h0 : (W.setCell ⟨b, 0, none⟩ v0).heap[b]? = some (.cells #[v0, a1, a2, a3, a4] T fr) := (Lib.heap_setCell_same (i := 0) h v0).trans rfl
  have h1 : ((W.setCell ⟨b, 0, none⟩ v0).setCell ⟨b, 1, none⟩ v1).heap[b]? = some (.cells #[v0, v1, a2, a3, a4] T fr) := (Lib.heap_setCell_same (i := 1) h0 v1).trans rfl
  have h2 : (((W.setCell ⟨b, 0, none⟩ v0).setCell ⟨b, 1, none⟩ v1).setCell ⟨b, 2, none⟩ v2).heap[b]? = some (.cells #[v0, v1, v2, a3, a4] T fr) := (Lib.heap_setCell_same (i := 2) h1 v2).trans rfl
  have h3 : ((((W.setCell ⟨b, 0, none⟩ v0).setCell ⟨b, 1, none⟩ v1).setCell ⟨b, 2, none⟩ v2).setCell ⟨b, 3, none⟩ v3).heap[b]? = some (.cells #[v0, v1, v2, v3, a4] T fr) := (Lib.heap_setCell_same (i := 3) h2 v3).trans rfl
  exact (Lib.heap_setCell_same (i := 4) h3 v4).trans rfl
theorem set5_below {W : World} {b B : Nat} (hb : B ≤ b) (v0 v1 v2 v3 v4 : Value) :
    Below B W (((((W.setCell ⟨b, 0, none⟩ v0).setCell ⟨b, 1, none⟩ v1).setCell ⟨b, 2, none⟩ v2).setCell ⟨b, 3, none⟩ v3).setCell ⟨b, 4, none⟩ v4) :=
  (((((Below.refl B W).setCell (p := ⟨b, 0, none⟩) hb v0).setCell (p := ⟨b, 1, none⟩) hb v1).setCell (p := ⟨b, 2, none⟩) hb v2).setCell (p := ⟨b, 3, none⟩) hb v3).setCell (p := ⟨b, 4, none⟩) hb v4
theorem laid5 {X : World} {b : Nat} {v0 v1 v2 v3 v4 : Value} {T : TypeId} (h : X.heap[b]? = some (.cells #[v0, v1, v2, v3, v4] T (0, 0))) :
    X.cell? ⟨b, 0, none⟩ = some v0 ∧ X.cell? ⟨b, 1, none⟩ = some v1 ∧ X.cell? ⟨b, 2, none⟩ = some v2 ∧ X.cell? ⟨b, 3, none⟩ = some v3 ∧ X.cell? ⟨b, 4, none⟩ = some v4 :=
  ⟨(blk_cell h 0).trans rfl, (blk_cell h 1).trans rfl, (blk_cell h 2).trans rfl, (blk_cell h 3).trans rfl, (blk_cell h 4).trans rfl⟩
theorem open5 {X : World} {b : Nat} {v0 v1 v2 v3 v4 : Value} {T : TypeId} (h : X.heap[b]? = some (.cells #[v0, v1, v2, v3, v4] T (0, 0))) :
    X.frozen? ⟨b, 0, none⟩ = false ∧ X.frozen? ⟨b, 1, none⟩ = false ∧ X.frozen? ⟨b, 2, none⟩ = false ∧ X.frozen? ⟨b, 3, none⟩ = false ∧ X.frozen? ⟨b, 4, none⟩ = false :=
  ⟨blk_frozen h 0, blk_frozen h 1, blk_frozen h 2, blk_frozen h 3, blk_frozen h 4⟩
set_option maxHeartbeats 4000000 in
set_option maxRecDepth 100000 in
theorem newPane_any (b : Nat) (hb : b < 256) (w : World) :
    Calls Tryd.prog 86 #[.int .u8 b] w fun e w' => e = .returned (.agg #[.int .u8 (b / 4 % 4 : Nat), .bool (b % 2 = 1), .bool (b / 2 % 2 = 1), .int .i64 0, .int .i64 0]) ∧ Below w.heap.size w w' := by
  have a1 := and1 b hb
  have a2 := and2 b hb
  obtain ⟨q, hq⟩ : ∃ q, Hid (b / 4 = q) := ⟨_, Lib.hid rfl⟩
  have a0 : (b : Int) / 4 = (q : Int) := by have := hq.out; omega
  have a3 := and3 q (by have := hq.out; omega)
  obtain ⟨y, hy⟩ : ∃ y, Hid (q % 4 = y) := ⟨_, Lib.hid rfl⟩
  rw [hy.out] at a3
  rw [hq.out, hy.out]
  clear hb
  have e2 : ∀ x, x % 2 = 1 ∨ x % 2 = 0 := fun x => by omega
  rcases e2 b with h1 | h1 <;> rcases e2 (b / 2) with h2 | h2 <;> rw [h1] at a1 <;> rw [h2] at a2 <;> simp only [h1, h2, decide_true, show decide ((0 : Nat) = 1) = false from rfl]
  · go_enter Tryd.func86, Tryd.ntmps86
    go_wp2_with (go_at_call 107; go_loud (refine (noPane_any _).mono ?_; rintro e_ w1 ⟨rfl, hb1⟩; have hz := (hb1.block _ (by rw [World.size_alloc]; omega)).trans (heap_alloc_new w _); have HB1 := Lib.hid (((Below.refl _ w).alloc (Nat.le_refl _) _).trans (hb1.mono (by simp))); have hlt := blk_lt hz; have hzz : ∀ o, (w1.alloc o).heap[w.heap.size]? = _ := fun o => (((Below.refl w1.heap.size w1).alloc (Nat.le_refl _) o).block _ hlt).trans hz; obtain ⟨x0, x1, x2, x3, x4⟩ := (⟨fun o => (laid5 (hzz o)).1, fun o => (laid5 (hzz o)).2.1, fun o => (laid5 (hzz o)).2.2.1, fun o => (laid5 (hzz o)).2.2.2.1, fun o => (laid5 (hzz o)).2.2.2.2⟩ : (∀ o, (w1.alloc o).cell? ⟨w.heap.size, 0, none⟩ = _) ∧ (∀ o, (w1.alloc o).cell? ⟨w.heap.size, 1, none⟩ = _) ∧ (∀ o, (w1.alloc o).cell? ⟨w.heap.size, 2, none⟩ = _) ∧ (∀ o, (w1.alloc o).cell? ⟨w.heap.size, 3, none⟩ = _) ∧ (∀ o, (w1.alloc o).cell? ⟨w.heap.size, 4, none⟩ = _)); obtain ⟨y0, y1, y2, y3, y4⟩ := (⟨fun o => (open5 (hzz o)).1, fun o => (open5 (hzz o)).2.1, fun o => (open5 (hzz o)).2.2.1, fun o => (open5 (hzz o)).2.2.2.1, fun o => (open5 (hzz o)).2.2.2.2⟩ : (∀ o, (w1.alloc o).frozen? ⟨w.heap.size, 0, none⟩ = _) ∧ (∀ o, (w1.alloc o).frozen? ⟨w.heap.size, 1, none⟩ = _) ∧ (∀ o, (w1.alloc o).frozen? ⟨w.heap.size, 2, none⟩ = _) ∧ (∀ o, (w1.alloc o).frozen? ⟨w.heap.size, 3, none⟩ = _) ∧ (∀ o, (w1.alloc o).frozen? ⟨w.heap.size, 4, none⟩ = _)); have HZ := Lib.hid hzz; clear hb1 hz hzz hlt))
    have HF := Lib.hid (set5 (HZ.out (.cells #[.int .u8 y, .bool true, .bool true, .int .i64 0, .int .i64 0] 100)) (.int .u8 y) (.bool true) (.bool true) (.int .i64 0) (.int .i64 0))
    have HG := Lib.hid ((HB1.out.alloc HB1.out.size (.cells #[.int .u8 y, .bool true, .bool true, .int .i64 0, .int .i64 0] 100)).trans (set5_below (Nat.le_refl w.heap.size) (.int .u8 y) (.bool true) (.bool true) (.int .i64 0) (.int .i64 0)))
    clear x0 x1 x2 x3 x4 y0 y1 y2 y3 y4
    generalize (((((w1.alloc (.cells #[.int .u8 y, .bool true, .bool true, .int .i64 0, .int .i64 0] 100)).setCell ⟨w.heap.size, 0, none⟩ (.int .u8 y)).setCell ⟨w.heap.size, 1, none⟩ (.bool true)).setCell ⟨w.heap.size, 2, none⟩ (.bool true)).setCell ⟨w.heap.size, 3, none⟩ (.int .i64 0)).setCell ⟨w.heap.size, 4, none⟩ (.int .i64 0) = X at HF HG ⊢
    obtain ⟨c0, c1, c2, c3, c4⟩ := laid5 HF.out
    exact bodyPost_ret (v := .agg #[.int .u8 y, .bool true, .bool true, .int .i64 0, .int .i64 0]) (by simp [results, Tryd.results86, go_sem, c0, c1, c2, c3, c4]; try rfl) rfl ⟨rfl, HG.out⟩
  · go_enter Tryd.func86, Tryd.ntmps86
    go_wp2_with (go_at_call 107; go_loud (refine (noPane_any _).mono ?_; rintro e_ w1 ⟨rfl, hb1⟩; have hz := (hb1.block _ (by rw [World.size_alloc]; omega)).trans (heap_alloc_new w _); have HB1 := Lib.hid (((Below.refl _ w).alloc (Nat.le_refl _) _).trans (hb1.mono (by simp))); have hlt := blk_lt hz; have hzz : ∀ o, (w1.alloc o).heap[w.heap.size]? = _ := fun o => (((Below.refl w1.heap.size w1).alloc (Nat.le_refl _) o).block _ hlt).trans hz; obtain ⟨x0, x1, x2, x3, x4⟩ := (⟨fun o => (laid5 (hzz o)).1, fun o => (laid5 (hzz o)).2.1, fun o => (laid5 (hzz o)).2.2.1, fun o => (laid5 (hzz o)).2.2.2.1, fun o => (laid5 (hzz o)).2.2.2.2⟩ : (∀ o, (w1.alloc o).cell? ⟨w.heap.size, 0, none⟩ = _) ∧ (∀ o, (w1.alloc o).cell? ⟨w.heap.size, 1, none⟩ = _) ∧ (∀ o, (w1.alloc o).cell? ⟨w.heap.size, 2, none⟩ = _) ∧ (∀ o, (w1.alloc o).cell? ⟨w.heap.size, 3, none⟩ = _) ∧ (∀ o, (w1.alloc o).cell? ⟨w.heap.size, 4, none⟩ = _)); obtain ⟨y0, y1, y2, y3, y4⟩ := (⟨fun o => (open5 (hzz o)).1, fun o => (open5 (hzz o)).2.1, fun o => (open5 (hzz o)).2.2.1, fun o => (open5 (hzz o)).2.2.2.1, fun o => (open5 (hzz o)).2.2.2.2⟩ : (∀ o, (w1.alloc o).frozen? ⟨w.heap.size, 0, none⟩ = _) ∧ (∀ o, (w1.alloc o).frozen? ⟨w.heap.size, 1, none⟩ = _) ∧ (∀ o, (w1.alloc o).frozen? ⟨w.heap.size, 2, none⟩ = _) ∧ (∀ o, (w1.alloc o).frozen? ⟨w.heap.size, 3, none⟩ = _) ∧ (∀ o, (w1.alloc o).frozen? ⟨w.heap.size, 4, none⟩ = _)); have HZ := Lib.hid hzz; clear hb1 hz hzz hlt))
    have HF := Lib.hid (set5 (HZ.out (.cells #[.int .u8 y, .bool true, .bool false, .int .i64 0, .int .i64 0] 100)) (.int .u8 y) (.bool true) (.bool false) (.int .i64 0) (.int .i64 0))
    have HG := Lib.hid ((HB1.out.alloc HB1.out.size (.cells #[.int .u8 y, .bool true, .bool false, .int .i64 0, .int .i64 0] 100)).trans (set5_below (Nat.le_refl w.heap.size) (.int .u8 y) (.bool true) (.bool false) (.int .i64 0) (.int .i64 0)))
    clear x0 x1 x2 x3 x4 y0 y1 y2 y3 y4
    generalize (((((w1.alloc (.cells #[.int .u8 y, .bool true, .bool false, .int .i64 0, .int .i64 0] 100)).setCell ⟨w.heap.size, 0, none⟩ (.int .u8 y)).setCell ⟨w.heap.size, 1, none⟩ (.bool true)).setCell ⟨w.heap.size, 2, none⟩ (.bool false)).setCell ⟨w.heap.size, 3, none⟩ (.int .i64 0)).setCell ⟨w.heap.size, 4, none⟩ (.int .i64 0) = X at HF HG ⊢
    obtain ⟨c0, c1, c2, c3, c4⟩ := laid5 HF.out
    exact bodyPost_ret (v := .agg #[.int .u8 y, .bool true, .bool false, .int .i64 0, .int .i64 0]) (by simp [results, Tryd.results86, go_sem, c0, c1, c2, c3, c4]; try rfl) rfl ⟨rfl, HG.out⟩
  · go_enter Tryd.func86, Tryd.ntmps86
    go_wp2_with (go_at_call 107; go_loud (refine (noPane_any _).mono ?_; rintro e_ w1 ⟨rfl, hb1⟩; have hz := (hb1.block _ (by rw [World.size_alloc]; omega)).trans (heap_alloc_new w _); have HB1 := Lib.hid (((Below.refl _ w).alloc (Nat.le_refl _) _).trans (hb1.mono (by simp))); have hlt := blk_lt hz; have hzz : ∀ o, (w1.alloc o).heap[w.heap.size]? = _ := fun o => (((Below.refl w1.heap.size w1).alloc (Nat.le_refl _) o).block _ hlt).trans hz; obtain ⟨x0, x1, x2, x3, x4⟩ := (⟨fun o => (laid5 (hzz o)).1, fun o => (laid5 (hzz o)).2.1, fun o => (laid5 (hzz o)).2.2.1, fun o => (laid5 (hzz o)).2.2.2.1, fun o => (laid5 (hzz o)).2.2.2.2⟩ : (∀ o, (w1.alloc o).cell? ⟨w.heap.size, 0, none⟩ = _) ∧ (∀ o, (w1.alloc o).cell? ⟨w.heap.size, 1, none⟩ = _) ∧ (∀ o, (w1.alloc o).cell? ⟨w.heap.size, 2, none⟩ = _) ∧ (∀ o, (w1.alloc o).cell? ⟨w.heap.size, 3, none⟩ = _) ∧ (∀ o, (w1.alloc o).cell? ⟨w.heap.size, 4, none⟩ = _)); obtain ⟨y0, y1, y2, y3, y4⟩ := (⟨fun o => (open5 (hzz o)).1, fun o => (open5 (hzz o)).2.1, fun o => (open5 (hzz o)).2.2.1, fun o => (open5 (hzz o)).2.2.2.1, fun o => (open5 (hzz o)).2.2.2.2⟩ : (∀ o, (w1.alloc o).frozen? ⟨w.heap.size, 0, none⟩ = _) ∧ (∀ o, (w1.alloc o).frozen? ⟨w.heap.size, 1, none⟩ = _) ∧ (∀ o, (w1.alloc o).frozen? ⟨w.heap.size, 2, none⟩ = _) ∧ (∀ o, (w1.alloc o).frozen? ⟨w.heap.size, 3, none⟩ = _) ∧ (∀ o, (w1.alloc o).frozen? ⟨w.heap.size, 4, none⟩ = _)); have HZ := Lib.hid hzz; clear hb1 hz hzz hlt))
    have HF := Lib.hid (set5 (HZ.out (.cells #[.int .u8 y, .bool false, .bool true, .int .i64 0, .int .i64 0] 100)) (.int .u8 y) (.bool false) (.bool true) (.int .i64 0) (.int .i64 0))
    have HG := Lib.hid ((HB1.out.alloc HB1.out.size (.cells #[.int .u8 y, .bool false, .bool true, .int .i64 0, .int .i64 0] 100)).trans (set5_below (Nat.le_refl w.heap.size) (.int .u8 y) (.bool false) (.bool true) (.int .i64 0) (.int .i64 0)))
    clear x0 x1 x2 x3 x4 y0 y1 y2 y3 y4
    generalize (((((w1.alloc (.cells #[.int .u8 y, .bool false, .bool true, .int .i64 0, .int .i64 0] 100)).setCell ⟨w.heap.size, 0, none⟩ (.int .u8 y)).setCell ⟨w.heap.size, 1, none⟩ (.bool false)).setCell ⟨w.heap.size, 2, none⟩ (.bool true)).setCell ⟨w.heap.size, 3, none⟩ (.int .i64 0)).setCell ⟨w.heap.size, 4, none⟩ (.int .i64 0) = X at HF HG ⊢
    obtain ⟨c0, c1, c2, c3, c4⟩ := laid5 HF.out
    exact bodyPost_ret (v := .agg #[.int .u8 y, .bool false, .bool true, .int .i64 0, .int .i64 0]) (by simp [results, Tryd.results86, go_sem, c0, c1, c2, c3, c4]; try rfl) rfl ⟨rfl, HG.out⟩
  · go_enter Tryd.func86, Tryd.ntmps86
    go_wp2_with (go_at_call 107; go_loud (refine (noPane_any _).mono ?_; rintro e_ w1 ⟨rfl, hb1⟩; have hz := (hb1.block _ (by rw [World.size_alloc]; omega)).trans (heap_alloc_new w _); have HB1 := Lib.hid (((Below.refl _ w).alloc (Nat.le_refl _) _).trans (hb1.mono (by simp))); have hlt := blk_lt hz; have hzz : ∀ o, (w1.alloc o).heap[w.heap.size]? = _ := fun o => (((Below.refl w1.heap.size w1).alloc (Nat.le_refl _) o).block _ hlt).trans hz; obtain ⟨x0, x1, x2, x3, x4⟩ := (⟨fun o => (laid5 (hzz o)).1, fun o => (laid5 (hzz o)).2.1, fun o => (laid5 (hzz o)).2.2.1, fun o => (laid5 (hzz o)).2.2.2.1, fun o => (laid5 (hzz o)).2.2.2.2⟩ : (∀ o, (w1.alloc o).cell? ⟨w.heap.size, 0, none⟩ = _) ∧ (∀ o, (w1.alloc o).cell? ⟨w.heap.size, 1, none⟩ = _) ∧ (∀ o, (w1.alloc o).cell? ⟨w.heap.size, 2, none⟩ = _) ∧ (∀ o, (w1.alloc o).cell? ⟨w.heap.size, 3, none⟩ = _) ∧ (∀ o, (w1.alloc o).cell? ⟨w.heap.size, 4, none⟩ = _)); obtain ⟨y0, y1, y2, y3, y4⟩ := (⟨fun o => (open5 (hzz o)).1, fun o => (open5 (hzz o)).2.1, fun o => (open5 (hzz o)).2.2.1, fun o => (open5 (hzz o)).2.2.2.1, fun o => (open5 (hzz o)).2.2.2.2⟩ : (∀ o, (w1.alloc o).frozen? ⟨w.heap.size, 0, none⟩ = _) ∧ (∀ o, (w1.alloc o).frozen? ⟨w.heap.size, 1, none⟩ = _) ∧ (∀ o, (w1.alloc o).frozen? ⟨w.heap.size, 2, none⟩ = _) ∧ (∀ o, (w1.alloc o).frozen? ⟨w.heap.size, 3, none⟩ = _) ∧ (∀ o, (w1.alloc o).frozen? ⟨w.heap.size, 4, none⟩ = _)); have HZ := Lib.hid hzz; clear hb1 hz hzz hlt))
    have HF := Lib.hid (set5 (HZ.out (.cells #[.int .u8 y, .bool false, .bool false, .int .i64 0, .int .i64 0] 100)) (.int .u8 y) (.bool false) (.bool false) (.int .i64 0) (.int .i64 0))
    have HG := Lib.hid ((HB1.out.alloc HB1.out.size (.cells #[.int .u8 y, .bool false, .bool false, .int .i64 0, .int .i64 0] 100)).trans (set5_below (Nat.le_refl w.heap.size) (.int .u8 y) (.bool false) (.bool false) (.int .i64 0) (.int .i64 0)))
    clear x0 x1 x2 x3 x4 y0 y1 y2 y3 y4
    generalize (((((w1.alloc (.cells #[.int .u8 y, .bool false, .bool false, .int .i64 0, .int .i64 0] 100)).setCell ⟨w.heap.size, 0, none⟩ (.int .u8 y)).setCell ⟨w.heap.size, 1, none⟩ (.bool false)).setCell ⟨w.heap.size, 2, none⟩ (.bool false)).setCell ⟨w.heap.size, 3, none⟩ (.int .i64 0)).setCell ⟨w.heap.size, 4, none⟩ (.int .i64 0) = X at HF HG ⊢
    obtain ⟨c0, c1, c2, c3, c4⟩ := laid5 HF.out
    exact bodyPost_ret (v := .agg #[.int .u8 y, .bool false, .bool false, .int .i64 0, .int .i64 0]) (by simp [results, Tryd.results86, go_sem, c0, c1, c2, c3, c4]; try rfl) rfl ⟨rfl, HG.out⟩
end Go.Proofs.YtgdbeiadlgkedaaDoor
namespace Go.Proofs.YtgdbeiadlgkedaaDoor
open Go.RowKit
set_option linter.unusedVariables false
set_option linter.unusedSimpArgs false
set_option maxHeartbeats 8000000 in
set_option maxRecDepth 100000 in
theorem decVal_1_ok (B : Nat) (pe pl : Addr) (t : ByteArray) (w : World) (ht : t.size ≤ 4294967296) (he : Env B pe pl w) (hB : B ≤ w.heap.size) (x : UInt8) (hR : t.data.toList[0]? = some x) :
    Calls Tryd.prog 20 #[.int .i64 1, .string t] w fun e w' => e = .returned (.tuple #[.agg #[(.int .i64 1), (.bool false), (.int .i64 (x.toNat : Nat)), (.int .u64 0), (.int .u64 0), (.string ⟨#[]⟩), (.int .i64 0), (.bool false), (.bool false), (.int .i64 0), (.int .i64 0)], .int .i64 (1 : Nat), .string ⟨#[]⟩]) ∧ Below w.heap.size w w' := by
  have kc := conv_bytes
  have HT := Lib.hid (And.intro ht (And.intro he hB))
  have HY := Lib.hid hR
  have hcv : wrap64 (x.toNat : Int) = (x.toNat : Int) := by have := x.toNat_lt; unfold wrap64; omega
  clear ht he hB hR
  go_enter Tryd.func20, Tryd.ntmps20
  go_wp2_with (first
    | (go_at_call 45; go_loud (refine (newRd_any (w.alloc (.cells (zv 0) 26)) (w.heap.size + 1) (World.size_alloc ..) t HT.out.1).mono ?_; rintro e_ w1 ⟨r, rfl, hr1, hr2, hr3⟩; obtain ⟨hs1, hs2, hs3, hs4⟩ := dv_start (b := 0) HT.out.2.2 HT.out.2.1 hr2 hr3; have y0 : w1.cell? ⟨w.heap.size, 0, none⟩ = some (.int .i64 0) := (blk_cell hs1 0).trans rfl; have g0 : w1.frozen? ⟨w.heap.size, 0, none⟩ = false := blk_frozen hs1 0; have HS := Lib.hid (And.intro hr1 (And.intro hs1 (And.intro hs2 (And.intro hs3 hs4)))); have HR3 := Lib.hid hr3; clear hr1 hr2 hr3 hs1 hs2 hs3 hs4))
    | (go_at_call 47; go_loud (refine (decByte_ok r (w.heap.size + 1) t.data.toList 0 x _ ?rd HY.out).mono ?_; (case rd => exact HS.out.1.set _ _ (by have := HR3.out; show w.heap.size ≠ r; omega) (by show w.heap.size ≠ w.heap.size + 1; omega)); rintro e_ w2 ⟨rfl, hg, hrd⟩; have hb2 : w2.heap[w.heap.size]? = some (.cells (zv 1) 26 (0, 0)) := (hg.block _ (by have := blk_lt HS.out.2.1; simpa [World.setCell] using this) (by have := HR3.out; intro e; cases e; omega)).trans ((Lib.heap_setCell_same (i := 0) HS.out.2.1 (.int .i64 1)).trans rfl); have c0 : w2.cell? ⟨w.heap.size, 0, none⟩ = some (.int .i64 1) := (blk_cell hb2 0).trans rfl; have f0 : w2.frozen? ⟨w.heap.size, 0, none⟩ = false := blk_frozen hb2 0; have c1 : w2.cell? ⟨w.heap.size, 1, none⟩ = some (.bool false) := (blk_cell hb2 1).trans rfl; have f1 : w2.frozen? ⟨w.heap.size, 1, none⟩ = false := blk_frozen hb2 1; have c2 : w2.cell? ⟨w.heap.size, 2, none⟩ = some (.int .i64 0) := (blk_cell hb2 2).trans rfl; have f2 : w2.frozen? ⟨w.heap.size, 2, none⟩ = false := blk_frozen hb2 2; have c3 : w2.cell? ⟨w.heap.size, 3, none⟩ = some (.int .u64 0) := (blk_cell hb2 3).trans rfl; have f3 : w2.frozen? ⟨w.heap.size, 3, none⟩ = false := blk_frozen hb2 3; have c4 : w2.cell? ⟨w.heap.size, 4, none⟩ = some (.int .u64 0) := (blk_cell hb2 4).trans rfl; have f4 : w2.frozen? ⟨w.heap.size, 4, none⟩ = false := blk_frozen hb2 4; have c5 : w2.cell? ⟨w.heap.size, 5, none⟩ = some (.string ⟨#[]⟩) := (blk_cell hb2 5).trans rfl; have f5 : w2.frozen? ⟨w.heap.size, 5, none⟩ = false := blk_frozen hb2 5; have c6 : w2.cell? ⟨w.heap.size, 6, none⟩ = some (.int .i64 0) := (blk_cell hb2 6).trans rfl; have f6 : w2.frozen? ⟨w.heap.size, 6, none⟩ = false := blk_frozen hb2 6; have c7 : w2.cell? ⟨w.heap.size, 7, none⟩ = some (.bool false) := (blk_cell hb2 7).trans rfl; have f7 : w2.frozen? ⟨w.heap.size, 7, none⟩ = false := blk_frozen hb2 7; have c8 : w2.cell? ⟨w.heap.size, 8, none⟩ = some (.bool false) := (blk_cell hb2 8).trans rfl; have f8 : w2.frozen? ⟨w.heap.size, 8, none⟩ = false := blk_frozen hb2 8; have c9 : w2.cell? ⟨w.heap.size, 9, none⟩ = some (.int .i64 0) := (blk_cell hb2 9).trans rfl; have f9 : w2.frozen? ⟨w.heap.size, 9, none⟩ = false := blk_frozen hb2 9; have c10 : w2.cell? ⟨w.heap.size, 10, none⟩ = some (.int .i64 0) := (blk_cell hb2 10).trans rfl; have f10 : w2.frozen? ⟨w.heap.size, 10, none⟩ = false := blk_frozen hb2 10; rw [Nat.zero_add] at hrd; have HB0 := Lib.hid hb2; have HG := Lib.hid hg; have HD := Lib.hid hrd; clear hg hrd hb2)))
  obtain ⟨W, hW⟩ : ∃ W, W = w2.setCell ⟨w.heap.size, 2, none⟩ (.int .i64 (x.toNat : Nat)) := ⟨_, rfl⟩
  have HB2 := Lib.hid (show W.heap[w.heap.size]? = some (.cells #[(.int .i64 1), (.bool false), (.int .i64 (x.toNat : Nat)), (.int .u64 0), (.int .u64 0), (.string ⟨#[]⟩), (.int .i64 0), (.bool false), (.bool false), (.int .i64 0), (.int .i64 0)] 26 (0, 0)) by
    rw [hW]; exact (Lib.heap_setCell_same (i := 2) HB0.out (.int .i64 (x.toNat : Nat))).trans rfl)
  have HD2 := Lib.hid (show Rd r (w.heap.size + 1) t.data.toList 1 W by
    rw [hW]; exact HD.out.set ⟨w.heap.size, 2, none⟩ _ (by have := HR3.out; show w.heap.size ≠ r; omega) (by show w.heap.size ≠ w.heap.size + 1; omega))
  rw [← hW]
  have HW := Lib.hid hW
  clear hW c0 f0 c1 f1 c2 f2 c3 f3 c4 f4 c5 f5 c6 f6 c7 f7 c8 f8 c9 f9 c10 f10
  have c0 : W.cell? ⟨w.heap.size, 0, none⟩ = some (.int .i64 1) := (blk_cell HB2.out 0).trans rfl
  have f0 : W.frozen? ⟨w.heap.size, 0, none⟩ = false := blk_frozen HB2.out 0
  have c1 : W.cell? ⟨w.heap.size, 1, none⟩ = some (.bool false) := (blk_cell HB2.out 1).trans rfl
  have f1 : W.frozen? ⟨w.heap.size, 1, none⟩ = false := blk_frozen HB2.out 1
  have c2 : W.cell? ⟨w.heap.size, 2, none⟩ = some (.int .i64 (x.toNat : Nat)) := (blk_cell HB2.out 2).trans rfl
  have f2 : W.frozen? ⟨w.heap.size, 2, none⟩ = false := blk_frozen HB2.out 2
  have c3 : W.cell? ⟨w.heap.size, 3, none⟩ = some (.int .u64 0) := (blk_cell HB2.out 3).trans rfl
  have f3 : W.frozen? ⟨w.heap.size, 3, none⟩ = false := blk_frozen HB2.out 3
  have c4 : W.cell? ⟨w.heap.size, 4, none⟩ = some (.int .u64 0) := (blk_cell HB2.out 4).trans rfl
  have f4 : W.frozen? ⟨w.heap.size, 4, none⟩ = false := blk_frozen HB2.out 4
  have c5 : W.cell? ⟨w.heap.size, 5, none⟩ = some (.string ⟨#[]⟩) := (blk_cell HB2.out 5).trans rfl
  have f5 : W.frozen? ⟨w.heap.size, 5, none⟩ = false := blk_frozen HB2.out 5
  have c6 : W.cell? ⟨w.heap.size, 6, none⟩ = some (.int .i64 0) := (blk_cell HB2.out 6).trans rfl
  have f6 : W.frozen? ⟨w.heap.size, 6, none⟩ = false := blk_frozen HB2.out 6
  have c7 : W.cell? ⟨w.heap.size, 7, none⟩ = some (.bool false) := (blk_cell HB2.out 7).trans rfl
  have f7 : W.frozen? ⟨w.heap.size, 7, none⟩ = false := blk_frozen HB2.out 7
  have c8 : W.cell? ⟨w.heap.size, 8, none⟩ = some (.bool false) := (blk_cell HB2.out 8).trans rfl
  have f8 : W.frozen? ⟨w.heap.size, 8, none⟩ = false := blk_frozen HB2.out 8
  have c9 : W.cell? ⟨w.heap.size, 9, none⟩ = some (.int .i64 0) := (blk_cell HB2.out 9).trans rfl
  have f9 : W.frozen? ⟨w.heap.size, 9, none⟩ = false := blk_frozen HB2.out 9
  have c10 : W.cell? ⟨w.heap.size, 10, none⟩ = some (.int .i64 0) := (blk_cell HB2.out 10).trans rfl
  have f10 : W.frozen? ⟨w.heap.size, 10, none⟩ = false := blk_frozen HB2.out 10
  have qs : (t.size : Int) - ((t.data.toList.length - 1 : Nat) : Int) = (1 : Nat) := by
    have h1 := HD2.out.le
    have h2 : t.data.toList.length = t.size := by rw [Array.length_toList]; rfl
    omega
  have qs2 : IntKind.i64.wrap ((1 : Nat) : Int) = (1 : Nat) := IntWalk.i64_in _ (by have := HD2.out.le; have := HD2.out.len; omega)
  obtain ⟨L, hL⟩ : ∃ L, Hid (t.data.toList.length - 1 = L) := ⟨_, Lib.hid rfl⟩
  rw [hL.out] at qs
  go_region_with (first | (go_at_call 62; refine (len_any r (w.heap.size + 1) t.data.toList 1 _ ?rd).mono ?_; (case rd => exact HD2.out.drewN 1); rw [hL.out]; rintro e_ w4 ⟨rfl, q4, rfl⟩) | (go_at_call 63; refine (word_nil _).mono ?_; rintro e_ w5 ⟨rfl, rfl⟩))
  all_goals
    refine (by assumption : ∀ (a : Act) (w : World), Code.wp _ Code.ret _ a w → _) _ _ ?_
    go_wp2
    obtain ⟨X, hX⟩ : ∃ X, X = (W.drewN (1 + q4)).setCells w.heap.size 0 [(.int .i64 1), (.bool false), (.int .i64 (x.toNat : Nat)), (.int .u64 0), (.int .u64 0), (.string ⟨#[]⟩), (.int .i64 0), (.bool false), (.bool false), (.int .i64 0), (.int .i64 0)] := ⟨_, rfl⟩
    have hXb : X.heap[w.heap.size]? = some (.cells #[(.int .i64 1), (.bool false), (.int .i64 (x.toNat : Nat)), (.int .u64 0), (.int .u64 0), (.string ⟨#[]⟩), (.int .i64 0), (.bool false), (.bool false), (.int .i64 0), (.int .i64 0)] 26 (0, 0)) := by
      rw [hX]; exact setCells_self _ _ _ _ _ 0 (W.drewN (1 + q4)) HB2.out (fun j v hj => by rw [Nat.zero_add]; simpa using hj)
    have hXw : Below w.heap.size w X := by
      rw [hX]
      exact (dv_below HS.out.2.2.2.1 HG.out HW.out (by have := HR3.out; omega)).trans (Lib.below_setCells_w (Nat.le_refl _) _ _ _)
    simp only [World.setCells] at hX
    rw [← hX]
    have HX := Lib.hid hXw
    clear hX hXw c0 f0 c1 f1 c2 f2 c3 f3 c4 f4 c5 f5 c6 f6 c7 f7 c8 f8 c9 f9 c10 f10
    have c0 : X.cell? ⟨w.heap.size, 0, none⟩ = some (.int .i64 1) := (blk_cell hXb 0).trans rfl
    have c1 : X.cell? ⟨w.heap.size, 1, none⟩ = some (.bool false) := (blk_cell hXb 1).trans rfl
    have c2 : X.cell? ⟨w.heap.size, 2, none⟩ = some (.int .i64 (x.toNat : Nat)) := (blk_cell hXb 2).trans rfl
    have c3 : X.cell? ⟨w.heap.size, 3, none⟩ = some (.int .u64 0) := (blk_cell hXb 3).trans rfl
    have c4 : X.cell? ⟨w.heap.size, 4, none⟩ = some (.int .u64 0) := (blk_cell hXb 4).trans rfl
    have c5 : X.cell? ⟨w.heap.size, 5, none⟩ = some (.string ⟨#[]⟩) := (blk_cell hXb 5).trans rfl
    have c6 : X.cell? ⟨w.heap.size, 6, none⟩ = some (.int .i64 0) := (blk_cell hXb 6).trans rfl
    have c7 : X.cell? ⟨w.heap.size, 7, none⟩ = some (.bool false) := (blk_cell hXb 7).trans rfl
    have c8 : X.cell? ⟨w.heap.size, 8, none⟩ = some (.bool false) := (blk_cell hXb 8).trans rfl
    have c9 : X.cell? ⟨w.heap.size, 9, none⟩ = some (.int .i64 0) := (blk_cell hXb 9).trans rfl
    have c10 : X.cell? ⟨w.heap.size, 10, none⟩ = some (.int .i64 0) := (blk_cell hXb 10).trans rfl
    clear hXb
    refine bodyPost_ret (v := .tuple #[.agg #[(.int .i64 1), (.bool false), (.int .i64 (x.toNat : Nat)), (.int .u64 0), (.int .u64 0), (.string ⟨#[]⟩), (.int .i64 0), (.bool false), (.bool false), (.int .i64 0), (.int .i64 0)], .int .i64 (1 : Nat), .string ⟨#[]⟩]) (by simp [results, Tryd.results20, go_sem, c0, c1, c2, c3, c4, c5, c6, c7, c8, c9, c10]; try rfl) rfl ⟨rfl, HX.out⟩
set_option maxHeartbeats 8000000 in
set_option maxRecDepth 100000 in
theorem decVal_1_bad (B : Nat) (pe pl : Addr) (t : ByteArray) (w : World) (ht : t.size ≤ 4294967296) (he : Env B pe pl w) (hB : B ≤ w.heap.size) (hR : ¬ 0 + 1 ≤ t.data.toList.length) :
    Calls Tryd.prog 20 #[.int .i64 1, .string t] w fun e w' => ∃ (n : Nat) (s : ByteArray), e = .returned (.tuple #[.agg #[(.int .i64 1), (.bool false), (.int .i64 0), (.int .u64 0), (.int .u64 0), (.string ⟨#[]⟩), (.int .i64 0), (.bool false), (.bool false), (.int .i64 0), (.int .i64 0)], .int .i64 n, .string s]) ∧ n ≤ t.size ∧ s.data.toList ≠ [] ∧ Below w.heap.size w w' := by
  have kc := conv_bytes
  have HT := Lib.hid (And.intro ht (And.intro he hB))
  have HY := Lib.hid hR
  clear ht he hB hR
  go_enter Tryd.func20, Tryd.ntmps20
  go_wp2_with (first
    | (go_at_call 45; go_loud (refine (newRd_any (w.alloc (.cells (zv 0) 26)) (w.heap.size + 1) (World.size_alloc ..) t HT.out.1).mono ?_; rintro e_ w1 ⟨r, rfl, hr1, hr2, hr3⟩; obtain ⟨hs1, hs2, hs3, hs4⟩ := dv_start (b := 0) HT.out.2.2 HT.out.2.1 hr2 hr3; have y0 : w1.cell? ⟨w.heap.size, 0, none⟩ = some (.int .i64 0) := (blk_cell hs1 0).trans rfl; have g0 : w1.frozen? ⟨w.heap.size, 0, none⟩ = false := blk_frozen hs1 0; have HS := Lib.hid (And.intro hr1 (And.intro hs1 (And.intro hs2 (And.intro hs3 hs4)))); have HR3 := Lib.hid hr3; clear hr1 hr2 hr3 hs1 hs2 hs3 hs4))
    | (go_at_call 47; go_loud (refine (decByte_eof B pe pl r (w.heap.size + 1) t.data.toList 0 _ ?rd ?en HS.out.2.2.2.2 HY.out).mono ?_; (case rd => exact HS.out.1.set _ _ (by have := HR3.out; show w.heap.size ≠ r; omega) (by show w.heap.size ≠ w.heap.size + 1; omega)); (case en => exact HS.out.2.2.1.below ((Below.refl _ _).setCell (by exact HT.out.2.2) _)); rintro e_ w2 ⟨ev, rfl, hg, hev, i', hrd⟩; obtain ⟨ea, es, rfl, hea, hes⟩ := hev; have HEA := Lib.hid (And.intro hea hes); have hb2 : w2.heap[w.heap.size]? = some (.cells (zv 1) 26 (0, 0)) := (hg.block _ (by have := blk_lt HS.out.2.1; simpa [World.setCell] using this) (by have := HR3.out; intro e; cases e; omega)).trans ((Lib.heap_setCell_same (i := 0) HS.out.2.1 (.int .i64 1)).trans rfl); have c0 : w2.cell? ⟨w.heap.size, 0, none⟩ = some (.int .i64 1) := (blk_cell hb2 0).trans rfl; have f0 : w2.frozen? ⟨w.heap.size, 0, none⟩ = false := blk_frozen hb2 0; have c1 : w2.cell? ⟨w.heap.size, 1, none⟩ = some (.bool false) := (blk_cell hb2 1).trans rfl; have f1 : w2.frozen? ⟨w.heap.size, 1, none⟩ = false := blk_frozen hb2 1; have c2 : w2.cell? ⟨w.heap.size, 2, none⟩ = some (.int .i64 0) := (blk_cell hb2 2).trans rfl; have f2 : w2.frozen? ⟨w.heap.size, 2, none⟩ = false := blk_frozen hb2 2; have c3 : w2.cell? ⟨w.heap.size, 3, none⟩ = some (.int .u64 0) := (blk_cell hb2 3).trans rfl; have f3 : w2.frozen? ⟨w.heap.size, 3, none⟩ = false := blk_frozen hb2 3; have c4 : w2.cell? ⟨w.heap.size, 4, none⟩ = some (.int .u64 0) := (blk_cell hb2 4).trans rfl; have f4 : w2.frozen? ⟨w.heap.size, 4, none⟩ = false := blk_frozen hb2 4; have c5 : w2.cell? ⟨w.heap.size, 5, none⟩ = some (.string ⟨#[]⟩) := (blk_cell hb2 5).trans rfl; have f5 : w2.frozen? ⟨w.heap.size, 5, none⟩ = false := blk_frozen hb2 5; have c6 : w2.cell? ⟨w.heap.size, 6, none⟩ = some (.int .i64 0) := (blk_cell hb2 6).trans rfl; have f6 : w2.frozen? ⟨w.heap.size, 6, none⟩ = false := blk_frozen hb2 6; have c7 : w2.cell? ⟨w.heap.size, 7, none⟩ = some (.bool false) := (blk_cell hb2 7).trans rfl; have f7 : w2.frozen? ⟨w.heap.size, 7, none⟩ = false := blk_frozen hb2 7; have c8 : w2.cell? ⟨w.heap.size, 8, none⟩ = some (.bool false) := (blk_cell hb2 8).trans rfl; have f8 : w2.frozen? ⟨w.heap.size, 8, none⟩ = false := blk_frozen hb2 8; have c9 : w2.cell? ⟨w.heap.size, 9, none⟩ = some (.int .i64 0) := (blk_cell hb2 9).trans rfl; have f9 : w2.frozen? ⟨w.heap.size, 9, none⟩ = false := blk_frozen hb2 9; have c10 : w2.cell? ⟨w.heap.size, 10, none⟩ = some (.int .i64 0) := (blk_cell hb2 10).trans rfl; have f10 : w2.frozen? ⟨w.heap.size, 10, none⟩ = false := blk_frozen hb2 10; have HB0 := Lib.hid hb2; have HG := Lib.hid hg; have HD := Lib.hid hrd; clear hea hes hg hrd hb2)))
  obtain ⟨W, hW⟩ : ∃ W, W = w2.setCell ⟨w.heap.size, 2, none⟩ (.int .i64 0) := ⟨_, rfl⟩
  have HB2 := Lib.hid (show W.heap[w.heap.size]? = some (.cells #[(.int .i64 1), (.bool false), (.int .i64 0), (.int .u64 0), (.int .u64 0), (.string ⟨#[]⟩), (.int .i64 0), (.bool false), (.bool false), (.int .i64 0), (.int .i64 0)] 26 (0, 0)) by
    rw [hW]; exact (Lib.heap_setCell_same (i := 2) HB0.out (.int .i64 0)).trans rfl)
  have HD2 := Lib.hid (show Rd r (w.heap.size + 1) t.data.toList i' W by
    rw [hW]; exact HD.out.set ⟨w.heap.size, 2, none⟩ _ (by have := HR3.out; show w.heap.size ≠ r; omega) (by show w.heap.size ≠ w.heap.size + 1; omega))
  have HEW := Lib.hid (show W.cell? ea = some (.string es) by
    rw [hW]; exact (World.cell?_of_block (a := ea) (same_set HB0.out (i := 2) (by rfl) _)).trans HEA.out.1)
  rw [← hW]
  have HW := Lib.hid hW
  clear hW c0 f0 c1 f1 c2 f2 c3 f3 c4 f4 c5 f5 c6 f6 c7 f7 c8 f8 c9 f9 c10 f10
  have c0 : W.cell? ⟨w.heap.size, 0, none⟩ = some (.int .i64 1) := (blk_cell HB2.out 0).trans rfl
  have f0 : W.frozen? ⟨w.heap.size, 0, none⟩ = false := blk_frozen HB2.out 0
  have c1 : W.cell? ⟨w.heap.size, 1, none⟩ = some (.bool false) := (blk_cell HB2.out 1).trans rfl
  have f1 : W.frozen? ⟨w.heap.size, 1, none⟩ = false := blk_frozen HB2.out 1
  have c2 : W.cell? ⟨w.heap.size, 2, none⟩ = some (.int .i64 0) := (blk_cell HB2.out 2).trans rfl
  have f2 : W.frozen? ⟨w.heap.size, 2, none⟩ = false := blk_frozen HB2.out 2
  have c3 : W.cell? ⟨w.heap.size, 3, none⟩ = some (.int .u64 0) := (blk_cell HB2.out 3).trans rfl
  have f3 : W.frozen? ⟨w.heap.size, 3, none⟩ = false := blk_frozen HB2.out 3
  have c4 : W.cell? ⟨w.heap.size, 4, none⟩ = some (.int .u64 0) := (blk_cell HB2.out 4).trans rfl
  have f4 : W.frozen? ⟨w.heap.size, 4, none⟩ = false := blk_frozen HB2.out 4
  have c5 : W.cell? ⟨w.heap.size, 5, none⟩ = some (.string ⟨#[]⟩) := (blk_cell HB2.out 5).trans rfl
  have f5 : W.frozen? ⟨w.heap.size, 5, none⟩ = false := blk_frozen HB2.out 5
  have c6 : W.cell? ⟨w.heap.size, 6, none⟩ = some (.int .i64 0) := (blk_cell HB2.out 6).trans rfl
  have f6 : W.frozen? ⟨w.heap.size, 6, none⟩ = false := blk_frozen HB2.out 6
  have c7 : W.cell? ⟨w.heap.size, 7, none⟩ = some (.bool false) := (blk_cell HB2.out 7).trans rfl
  have f7 : W.frozen? ⟨w.heap.size, 7, none⟩ = false := blk_frozen HB2.out 7
  have c8 : W.cell? ⟨w.heap.size, 8, none⟩ = some (.bool false) := (blk_cell HB2.out 8).trans rfl
  have f8 : W.frozen? ⟨w.heap.size, 8, none⟩ = false := blk_frozen HB2.out 8
  have c9 : W.cell? ⟨w.heap.size, 9, none⟩ = some (.int .i64 0) := (blk_cell HB2.out 9).trans rfl
  have f9 : W.frozen? ⟨w.heap.size, 9, none⟩ = false := blk_frozen HB2.out 9
  have c10 : W.cell? ⟨w.heap.size, 10, none⟩ = some (.int .i64 0) := (blk_cell HB2.out 10).trans rfl
  have f10 : W.frozen? ⟨w.heap.size, 10, none⟩ = false := blk_frozen HB2.out 10
  have qs : (t.size : Int) - ((t.data.toList.length - i' : Nat) : Int) = (i' : Nat) := by
    have h1 := HD2.out.le
    have h2 : t.data.toList.length = t.size := by rw [Array.length_toList]; rfl
    omega
  have qs2 : IntKind.i64.wrap ((i' : Nat) : Int) = (i' : Nat) := IntWalk.i64_in _ (by have := HD2.out.le; have := HD2.out.len; omega)
  obtain ⟨L, hL⟩ : ∃ L, Hid (t.data.toList.length - i' = L) := ⟨_, Lib.hid rfl⟩
  rw [hL.out] at qs
  go_region_with (first | (go_at_call 62; refine (len_any r (w.heap.size + 1) t.data.toList i' _ ?rd).mono ?_; (case rd => exact HD2.out.drewN 1); rw [hL.out]; rintro e_ w4 ⟨rfl, q4, rfl⟩) | (go_at_call 63; refine (word_err ea es _ ?wd).mono ?_; (case wd => exact HEW.out); rintro e_ w5 ⟨rfl, rfl⟩))
  all_goals
    refine (by assumption : ∀ (a : Act) (w : World), Code.wp _ Code.ret _ a w → _) _ _ ?_
    go_wp2
    obtain ⟨X, hX⟩ : ∃ X, X = (W.drewN (1 + q4)).setCells w.heap.size 0 [(.int .i64 1), (.bool false), (.int .i64 0), (.int .u64 0), (.int .u64 0), (.string ⟨#[]⟩), (.int .i64 0), (.bool false), (.bool false), (.int .i64 0), (.int .i64 0)] := ⟨_, rfl⟩
    have hXb : X.heap[w.heap.size]? = some (.cells #[(.int .i64 1), (.bool false), (.int .i64 0), (.int .u64 0), (.int .u64 0), (.string ⟨#[]⟩), (.int .i64 0), (.bool false), (.bool false), (.int .i64 0), (.int .i64 0)] 26 (0, 0)) := by
      rw [hX]; exact setCells_self _ _ _ _ _ 0 (W.drewN (1 + q4)) HB2.out (fun j v hj => by rw [Nat.zero_add]; simpa using hj)
    have hXw : Below w.heap.size w X := by
      rw [hX]
      exact (dv_below HS.out.2.2.2.1 HG.out HW.out (by have := HR3.out; omega)).trans (Lib.below_setCells_w (Nat.le_refl _) _ _ _)
    simp only [World.setCells] at hX
    rw [← hX]
    have HX := Lib.hid hXw
    clear hX hXw c0 f0 c1 f1 c2 f2 c3 f3 c4 f4 c5 f5 c6 f6 c7 f7 c8 f8 c9 f9 c10 f10
    have c0 : X.cell? ⟨w.heap.size, 0, none⟩ = some (.int .i64 1) := (blk_cell hXb 0).trans rfl
    have c1 : X.cell? ⟨w.heap.size, 1, none⟩ = some (.bool false) := (blk_cell hXb 1).trans rfl
    have c2 : X.cell? ⟨w.heap.size, 2, none⟩ = some (.int .i64 0) := (blk_cell hXb 2).trans rfl
    have c3 : X.cell? ⟨w.heap.size, 3, none⟩ = some (.int .u64 0) := (blk_cell hXb 3).trans rfl
    have c4 : X.cell? ⟨w.heap.size, 4, none⟩ = some (.int .u64 0) := (blk_cell hXb 4).trans rfl
    have c5 : X.cell? ⟨w.heap.size, 5, none⟩ = some (.string ⟨#[]⟩) := (blk_cell hXb 5).trans rfl
    have c6 : X.cell? ⟨w.heap.size, 6, none⟩ = some (.int .i64 0) := (blk_cell hXb 6).trans rfl
    have c7 : X.cell? ⟨w.heap.size, 7, none⟩ = some (.bool false) := (blk_cell hXb 7).trans rfl
    have c8 : X.cell? ⟨w.heap.size, 8, none⟩ = some (.bool false) := (blk_cell hXb 8).trans rfl
    have c9 : X.cell? ⟨w.heap.size, 9, none⟩ = some (.int .i64 0) := (blk_cell hXb 9).trans rfl
    have c10 : X.cell? ⟨w.heap.size, 10, none⟩ = some (.int .i64 0) := (blk_cell hXb 10).trans rfl
    clear hXb
    refine bodyPost_ret (v := .tuple #[.agg #[(.int .i64 1), (.bool false), (.int .i64 0), (.int .u64 0), (.int .u64 0), (.string ⟨#[]⟩), (.int .i64 0), (.bool false), (.bool false), (.int .i64 0), (.int .i64 0)], .int .i64 (i' : Nat), .string es]) (by simp [results, Tryd.results20, go_sem, c0, c1, c2, c3, c4, c5, c6, c7, c8, c9, c10]; try rfl) rfl ⟨i', es, rfl, by have := HD2.out.le; have h2 : t.data.toList.length = t.size := (by rw [Array.length_toList]; rfl); omega, HEA.out.2, HX.out⟩
end Go.Proofs.YtgdbeiadlgkedaaDoor
namespace Go.Proofs
open Go.Shelf
def Tryd.lays169_ren : Go.Shelf.Ren := ⟨fun | 169 => 109 | n => n, fun | 70 => 185 | 9 => 9 | 0 => 0 | 72 => 187 | 37 => 29 | 127 => 189 | 3 => 3 | 5 => 5 | n => n, fun | n => n⟩
theorem Tryd.lays169 : Go.Proofs.Lays.n169 Tryd.prog Tryd.lays169_ren := {
  mixed := by kernel_rfl
  f169 := Tryd.func109.trans (congrArg some (by kernel_rfl))
  t0 := Tryd.underlying0
  a0 := Tryd.isAgg0
  z0 := Tryd.sizeOf0
  v0 := Tryd.zeroValue0
  t3 := Tryd.underlying3
  a3 := Tryd.isAgg3
  z3 := Tryd.sizeOf3
  v3 := Tryd.zeroValue3
  t9 := Tryd.underlying9
  a9 := Tryd.isAgg9
  z9 := Tryd.sizeOf9
  v9 := Tryd.zeroValue9
  t37 := Tryd.underlying29
  a37 := Tryd.isAgg29
  z37 := Tryd.sizeOf29
  v37 := Tryd.zeroValue29
  t70 := Tryd.underlying185
  a70 := Tryd.isAgg185
  z70 := Tryd.sizeOf185
  v70 := Tryd.zeroValue185
  t72 := Tryd.underlying187
  a72 := Tryd.isAgg187
  z72 := Tryd.sizeOf187
  v72 := Tryd.zeroValue187
  t127 := Tryd.underlying189
  a127 := Tryd.isAgg189
  z127 := Tryd.sizeOf189
  v127 := Tryd.zeroValue189 }
theorem Tryd.Builder_Extra_169 : Builder.Extra Tryd.prog Tryd.lays169_ren := {
  sizeBuilder := by kernel_rfl
  liesBuilder := by kernel_rfl
  t5 := Tryd.underlying5
  a5 := Tryd.isAgg5
  z5 := Tryd.sizeOf5
  v5 := Tryd.zeroValue5
  infoByte := by kernel_rfl
  cellsByte := by kernel_rfl
  sizeByte := by kernel_rfl
  neB5 := by decide }
open Go.RowKit in
open Go.RowKit in
open Go.RowKit in
theorem Tryd.Builder_String_any (B b : Nat) (l : List UInt8) (w : World) (h : Lib.IsBuilder 187 5 B b (Lib.byteCells l) w) (hBw : B ≤ w.heap.size) :
    Calls Tryd.prog 109 #[.pointer (some ⟨b, 0, none⟩)] w fun e w' => e = .returned (.string ⟨l.toArray⟩) ∧ Below B w w' := Any.Builder_String_any Tryd.lays169 Tryd.Builder_Extra_169 B b l w h hBw
end Go.Proofs
