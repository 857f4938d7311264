/- Contracts and plain laws, several texts in one. -/
import Derived.Test.YtgdbeiadlgkedaaDoorMThereBack0
import Derived.Test.YtgdbeiadlgkedaaDoorMThereBack8
import Derived.Test.YtgdbeiadlgkedaaDoorMThereBack10
import Derived.Test.YtgdbeiadlgkedaaDoorMThereBack16
import Derived.LoopTactic
import Derived.Laws.IdiomStrings
import Derived.Deep.Slices
import Derived.RowKit
import Derived.ChangeArms
import Derived.Lib.SmallJoins
import Derived.ChangeSame
import Derived.Deep.Fields
namespace Go.Proofs.YtgdbeiadlgkedaaDoor
open Go.RowKit
set_option linter.unusedVariables false
set_option linter.unusedSimpArgs false
theorem and1 (b : Nat) (h : b < 256) : bits .and .u8 (b : Int) 1 = ((b % 2 : Nat) : Int) := by
  have : ∀ b : Fin 256, bits .and .u8 ((b : Nat) : Int) 1 = (((b : Nat) % 2 : Nat) : Int) := by decide +kernel
  exact this ⟨b, h⟩
theorem and2 (b : Nat) (h : b < 256) : bits .and .u8 (b : Int) 2 = ((b / 2 % 2 * 2 : Nat) : Int) := by
  have : ∀ b : Fin 256, bits .and .u8 ((b : Nat) : Int) 2 = (((b : Nat) / 2 % 2 * 2 : Nat) : Int) := by decide +kernel
  exact this ⟨b, h⟩
theorem and3 (b : Nat) (h : b < 256) : bits .and .u8 (b : Int) 3 = ((b % 4 : Nat) : Int) := by
  have : ∀ b : Fin 256, bits .and .u8 ((b : Nat) : Int) 3 = (((b : Nat) % 4 : Nat) : Int) := by decide +kernel
  exact this ⟨b, h⟩
set_option maxHeartbeats 4000000 in
set_option maxRecDepth 100000 in
theorem noPane_any (w : World) :
    Calls Tryd.prog 107 #[] w fun e w' => e = .returned (.agg #[.int .u8 3, .bool true, .bool true, .int .i64 0, .int .i64 0]) ∧ Below w.heap.size w w' := by
  go_enter Tryd.func107, Tryd.ntmps107
  go_wp2
  obtain ⟨X, hX⟩ : ∃ X, X = w.alloc (.cells #[.int .u8 3, .bool true, .bool true, .int .i64 0, .int .i64 0] 100) := ⟨_, rfl⟩
  have hb : X.heap[w.heap.size]? = some (.cells #[.int .u8 3, .bool true, .bool true, .int .i64 0, .int .i64 0] 100 (0, 0)) := by rw [hX]; exact heap_alloc_new w _
  have HX := Lib.hid (show Below w.heap.size w X by rw [hX]; exact (Below.refl _ w).alloc (Nat.le_refl _) _)
  rw [← hX]
  clear hX
  have c0 : X.cell? ⟨w.heap.size, 0, none⟩ = some (.int .u8 3) := (blk_cell hb 0).trans rfl
  have c1 : X.cell? ⟨w.heap.size, 1, none⟩ = some (.bool true) := (blk_cell hb 1).trans rfl
  have c2 : X.cell? ⟨w.heap.size, 2, none⟩ = some (.bool true) := (blk_cell hb 2).trans rfl
  have c3 : X.cell? ⟨w.heap.size, 3, none⟩ = some (.int .i64 0) := (blk_cell hb 3).trans rfl
  have c4 : X.cell? ⟨w.heap.size, 4, none⟩ = some (.int .i64 0) := (blk_cell hb 4).trans rfl
  clear hb
  exact bodyPost_ret (v := .agg #[.int .u8 3, .bool true, .bool true, .int .i64 0, .int .i64 0]) (by simp [results, Tryd.results107, go_sem, c0, c1, c2, c3, c4]; try rfl) rfl ⟨rfl, HX.out⟩
set_option maxHeartbeats 4000000 in
set_option maxRecDepth 100000 in
theorem backPane_any (t : Nat) (f l : Bool) (i n : Int) (ht : t < 256) (w : World) :
    Calls Tryd.prog 54 #[.agg #[.int .u8 t, .bool f, .bool l, .int .i64 i, .int .i64 n]] w fun e w' => e = .returned (.agg #[.int .i64 t, .bool f, .bool l, .int .i64 i, .int .i64 n]) ∧ Below w.heap.size w w' := by
  have q1 : IntKind.i64.wrap (t : Int) = (t : Int) := IntWalk.i64_in _ (by omega)
  have q2 : wrap64 (t : Int) = (t : Int) := IntWalk.wrap64_in _ (by omega)
  clear ht
  go_enter Tryd.func54, Tryd.ntmps54
  go_wp2
  obtain ⟨X, hX⟩ : ∃ X, X = (w.alloc (.cells #[.int .u8 t, .bool f, .bool l, .int .i64 i, .int .i64 n] 100)).alloc (.cells #[.int .i64 t, .bool f, .bool l, .int .i64 i, .int .i64 n] 24) := ⟨_, rfl⟩
  have hb : X.heap[w.heap.size + 1]? = some (.cells #[.int .i64 t, .bool f, .bool l, .int .i64 i, .int .i64 n] 24 (0, 0)) := by rw [hX]; have := heap_alloc_new (w.alloc (.cells #[.int .u8 t, .bool f, .bool l, .int .i64 i, .int .i64 n] 100)) (.cells #[.int .i64 t, .bool f, .bool l, .int .i64 i, .int .i64 n] 24); rwa [World.size_alloc] at this
  have HX := Lib.hid (show Below w.heap.size w X by rw [hX]; exact ((Below.refl _ w).alloc (Nat.le_refl _) _).alloc (by rw [World.size_alloc]; omega) _)
  rw [← hX]
  clear hX
  have c0 : X.cell? ⟨w.heap.size + 1, 0, none⟩ = some (.int .i64 t) := (blk_cell hb 0).trans rfl
  have c1 : X.cell? ⟨w.heap.size + 1, 1, none⟩ = some (.bool f) := (blk_cell hb 1).trans rfl
  have c2 : X.cell? ⟨w.heap.size + 1, 2, none⟩ = some (.bool l) := (blk_cell hb 2).trans rfl
  have c3 : X.cell? ⟨w.heap.size + 1, 3, none⟩ = some (.int .i64 i) := (blk_cell hb 3).trans rfl
  have c4 : X.cell? ⟨w.heap.size + 1, 4, none⟩ = some (.int .i64 n) := (blk_cell hb 4).trans rfl
  clear hb
  exact bodyPost_ret (v := .agg #[.int .i64 t, .bool f, .bool l, .int .i64 i, .int .i64 n]) (by simp [results, Tryd.results54, go_sem, c0, c1, c2, c3, c4]; try rfl) rfl ⟨rfl, HX.out⟩
theorem set5 {W : World} {b : Nat} {a0 a1 a2 a3 a4 : Value} {T : TypeId} {fr : Nat × Nat} (h : W.heap[b]? = some (.cells #[a0, a1, a2, a3, a4] T fr)) (v0 v1 v2 v3 v4 : Value) :
    (((((W.setCell ⟨b, 0, none⟩ v0).setCell ⟨b, 1, none⟩ v1).setCell ⟨b, 2, none⟩ v2).setCell ⟨b, 3, none⟩ v3).setCell ⟨b, 4, none⟩ v4).heap[b]? = some (.cells #[v0, v1, v2, v3, v4] T fr) := by
  have h0 : (W.setCell ⟨b, 0, none⟩ v0).heap[b]? = some (.cells #[v0, a1, a2, a3, a4] T fr) := (Lib.heap_setCell_same (i := 0) h v0).trans rfl
  have h1 : ((W.setCell ⟨b, 0, none⟩ v0).setCell ⟨b, 1, none⟩ v1).heap[b]? = some (.cells #[v0, v1, a2, a3, a4] T fr) := (Lib.heap_setCell_same (i := 1) h0 v1).trans rfl
  have h2 : (((W.setCell ⟨b, 0, none⟩ v0).setCell ⟨b, 1, none⟩ v1).setCell ⟨b, 2, none⟩ v2).heap[b]? = some (.cells #[v0, v1, v2, a3, a4] T fr) := (Lib.heap_setCell_same (i := 2) h1 v2).trans rfl
  have h3 : ((((W.setCell ⟨b, 0, none⟩ v0).setCell ⟨b, 1, none⟩ v1).setCell ⟨b, 2, none⟩ v2).setCell ⟨b, 3, none⟩ v3).heap[b]? = some (.cells #[v0, v1, v2, v3, a4] T fr) := (Lib.heap_setCell_same (i := 3) h2 v3).trans rfl
  exact (Lib.heap_setCell_same (i := 4) h3 v4).trans rfl
theorem set5_below {W : World} {b B : Nat} (hb : B ≤ b) (v0 v1 v2 v3 v4 : Value) :
    Below B W (((((W.setCell ⟨b, 0, none⟩ v0).setCell ⟨b, 1, none⟩ v1).setCell ⟨b, 2, none⟩ v2).setCell ⟨b, 3, none⟩ v3).setCell ⟨b, 4, none⟩ v4) :=
  (((((Below.refl B W).setCell (p := ⟨b, 0, none⟩) hb v0).setCell (p := ⟨b, 1, none⟩) hb v1).setCell (p := ⟨b, 2, none⟩) hb v2).setCell (p := ⟨b, 3, none⟩) hb v3).setCell (p := ⟨b, 4, none⟩) hb v4
theorem laid5 {X : World} {b : Nat} {v0 v1 v2 v3 v4 : Value} {T : TypeId} (h : X.heap[b]? = some (.cells #[v0, v1, v2, v3, v4] T (0, 0))) :
    X.cell? ⟨b, 0, none⟩ = some v0 ∧ X.cell? ⟨b, 1, none⟩ = some v1 ∧ X.cell? ⟨b, 2, none⟩ = some v2 ∧ X.cell? ⟨b, 3, none⟩ = some v3 ∧ X.cell? ⟨b, 4, none⟩ = some v4 :=
  ⟨(blk_cell h 0).trans rfl, (blk_cell h 1).trans rfl, (blk_cell h 2).trans rfl, (blk_cell h 3).trans rfl, (blk_cell h 4).trans rfl⟩
theorem open5 {X : World} {b : Nat} {v0 v1 v2 v3 v4 : Value} {T : TypeId} (h : X.heap[b]? = some (.cells #[v0, v1, v2, v3, v4] T (0, 0))) :
    X.frozen? ⟨b, 0, none⟩ = false ∧ X.frozen? ⟨b, 1, none⟩ = false ∧ X.frozen? ⟨b, 2, none⟩ = false ∧ X.frozen? ⟨b, 3, none⟩ = false ∧ X.frozen? ⟨b, 4, none⟩ = false :=
  ⟨blk_frozen h 0, blk_frozen h 1, blk_frozen h 2, blk_frozen h 3, blk_frozen h 4⟩
set_option maxHeartbeats 4000000 in
set_option maxRecDepth 100000 in
theorem newPane_any (b : Nat) (hb : b < 256) (w : World) :
    Calls Tryd.prog 86 #[.int .u8 b] w fun e w' => e = .returned (.agg #[.int .u8 (b / 4 % 4 : Nat), .bool (b % 2 = 1), .bool (b / 2 % 2 = 1), .int .i64 0, .int .i64 0]) ∧ Below w.heap.size w w' := by
  have a1 := and1 b hb
  have a2 := and2 b hb
  obtain ⟨q, hq⟩ : ∃ q, Hid (b / 4 = q) := ⟨_, Lib.hid rfl⟩
  have a0 : (b : Int) / 4 = (q : Int) := by have := hq.out; omega
  have a3 := and3 q (by have := hq.out; omega)
  obtain ⟨y, hy⟩ : ∃ y, Hid (q % 4 = y) := ⟨_, Lib.hid rfl⟩
  rw [hy.out] at a3
  rw [hq.out, hy.out]
  clear hb
  have e2 : ∀ x, x % 2 = 1 ∨ x % 2 = 0 := fun x => by omega
  rcases e2 b with h1 | h1 <;> rcases e2 (b / 2) with h2 | h2 <;> rw [h1] at a1 <;> rw [h2] at a2 <;> simp only [h1, h2, decide_true, show decide ((0 : Nat) = 1) = false from rfl]
  · go_enter Tryd.func86, Tryd.ntmps86
    go_wp2_with (go_at_call 107; go_loud (refine (noPane_any _).mono ?_; rintro e_ w1 ⟨rfl, hb1⟩; have hz := (hb1.block _ (by rw [World.size_alloc]; omega)).trans (heap_alloc_new w _); have HB1 := Lib.hid (((Below.refl _ w).alloc (Nat.le_refl _) _).trans (hb1.mono (by simp))); have hlt := blk_lt hz; have hzz : ∀ o, (w1.alloc o).heap[w.heap.size]? = _ := fun o => (((Below.refl w1.heap.size w1).alloc (Nat.le_refl _) o).block _ hlt).trans hz; obtain ⟨x0, x1, x2, x3, x4⟩ := (⟨fun o => (laid5 (hzz o)).1, fun o => (laid5 (hzz o)).2.1, fun o => (laid5 (hzz o)).2.2.1, fun o => (laid5 (hzz o)).2.2.2.1, fun o => (laid5 (hzz o)).2.2.2.2⟩ : (∀ o, (w1.alloc o).cell? ⟨w.heap.size, 0, none⟩ = _) ∧ (∀ o, (w1.alloc o).cell? ⟨w.heap.size, 1, none⟩ = _) ∧ (∀ o, (w1.alloc o).cell? ⟨w.heap.size, 2, none⟩ = _) ∧ (∀ o, (w1.alloc o).cell? ⟨w.heap.size, 3, none⟩ = _) ∧ (∀ o, (w1.alloc o).cell? ⟨w.heap.size, 4, none⟩ = _)); obtain ⟨y0, y1, y2, y3, y4⟩ := (⟨fun o => (open5 (hzz o)).1, fun o => (open5 (hzz o)).2.1, fun o => (open5 (hzz o)).2.2.1, fun o => (open5 (hzz o)).2.2.2.1, fun o => (open5 (hzz o)).2.2.2.2⟩ : (∀ o, (w1.alloc o).frozen? ⟨w.heap.size, 0, none⟩ = _) ∧ (∀ o, (w1.alloc o).frozen? ⟨w.heap.size, 1, none⟩ = _) ∧ (∀ o, (w1.alloc o).frozen? ⟨w.heap.size, 2, none⟩ = _) ∧ (∀ o, (w1.alloc o).frozen? ⟨w.heap.size, 3, none⟩ = _) ∧ (∀ o, (w1.alloc o).frozen? ⟨w.heap.size, 4, none⟩ = _)); have HZ := Lib.hid hzz; clear hb1 hz hzz hlt))
    have HF := Lib.hid (set5 (HZ.out (.cells #[.int .u8 y, .bool true, .bool true, .int .i64 0, .int .i64 0] 100)) (.int .u8 y) (.bool true) (.bool true) (.int .i64 0) (.int .i64 0))
    have HG := Lib.hid ((HB1.out.alloc HB1.out.size (.cells #[.int .u8 y, .bool true, .bool true, .int .i64 0, .int .i64 0] 100)).trans (set5_below (Nat.le_refl w.heap.size) (.int .u8 y) (.bool true) (.bool true) (.int .i64 0) (.int .i64 0)))
    clear x0 x1 x2 x3 x4 y0 y1 y2 y3 y4
    generalize (((((w1.alloc (.cells #[.int .u8 y, .bool true, .bool true, .int .i64 0, .int .i64 0] 100)).setCell ⟨w.heap.size, 0, none⟩ (.int .u8 y)).setCell ⟨w.heap.size, 1, none⟩ (.bool true)).setCell ⟨w.heap.size, 2, none⟩ (.bool true)).setCell ⟨w.heap.size, 3, none⟩ (.int .i64 0)).setCell ⟨w.heap.size, 4, none⟩ (.int .i64 0) = X at HF HG ⊢
    obtain ⟨c0, c1, c2, c3, c4⟩ := laid5 HF.out
    exact bodyPost_ret (v := .agg #[.int .u8 y, .bool true, .bool true, .int .i64 0, .int .i64 0]) (by simp [results, Tryd.results86, go_sem, c0, c1, c2, c3, c4]; try rfl) rfl ⟨rfl, HG.out⟩
  · go_enter Tryd.func86, Tryd.ntmps86
    go_wp2_with (go_at_call 107; go_loud (refine (noPane_any _).mono ?_; rintro e_ w1 ⟨rfl, hb1⟩; have hz := (hb1.block _ (by rw [World.size_alloc]; omega)).trans (heap_alloc_new w _); have HB1 := Lib.hid (((Below.refl _ w).alloc (Nat.le_refl _) _).trans (hb1.mono (by simp))); have hlt := blk_lt hz; have hzz : ∀ o, (w1.alloc o).heap[w.heap.size]? = _ := fun o => (((Below.refl w1.heap.size w1).alloc (Nat.le_refl _) o).block _ hlt).trans hz; obtain ⟨x0, x1, x2, x3, x4⟩ := (⟨fun o => (laid5 (hzz o)).1, fun o => (laid5 (hzz o)).2.1, fun o => (laid5 (hzz o)).2.2.1, fun o => (laid5 (hzz o)).2.2.2.1, fun o => (laid5 (hzz o)).2.2.2.2⟩ : (∀ o, (w1.alloc o).cell? ⟨w.heap.size, 0, none⟩ = _) ∧ (∀ o, (w1.alloc o).cell? ⟨w.heap.size, 1, none⟩ = _) ∧ (∀ o, (w1.alloc o).cell? ⟨w.heap.size, 2, none⟩ = _) ∧ (∀ o, (w1.alloc o).cell? ⟨w.heap.size, 3, none⟩ = _) ∧ (∀ o, (w1.alloc o).cell? ⟨w.heap.size, 4, none⟩ = _)); obtain ⟨y0, y1, y2, y3, y4⟩ := (⟨fun o => (open5 (hzz o)).1, fun o => (open5 (hzz o)).2.1, fun o => (open5 (hzz o)).2.2.1, fun o => (open5 (hzz o)).2.2.2.1, fun o => (open5 (hzz o)).2.2.2.2⟩ : (∀ o, (w1.alloc o).frozen? ⟨w.heap.size, 0, none⟩ = _) ∧ (∀ o, (w1.alloc o).frozen? ⟨w.heap.size, 1, none⟩ = _) ∧ (∀ o, (w1.alloc o).frozen? ⟨w.heap.size, 2, none⟩ = _) ∧ (∀ o, (w1.alloc o).frozen? ⟨w.heap.size, 3, none⟩ = _) ∧ (∀ o, (w1.alloc o).frozen? ⟨w.heap.size, 4, none⟩ = _)); have HZ := Lib.hid hzz; clear hb1 hz hzz hlt))
    have HF := Lib.hid (set5 (HZ.out (.cells #[.int .u8 y, .bool true, .bool false, .int .i64 0, .int .i64 0] 100)) (.int .u8 y) (.bool true) (.bool false) (.int .i64 0) (.int .i64 0))
    have HG := Lib.hid ((HB1.out.alloc HB1.out.size (.cells #[.int .u8 y, .bool true, .bool false, .int .i64 0, .int .i64 0] 100)).trans (set5_below (Nat.le_refl w.heap.size) (.int .u8 y) (.bool true) (.bool false) (.int .i64 0) (.int .i64 0)))
    clear x0 x1 x2 x3 x4 y0 y1 y2 y3 y4
    generalize (((((w1.alloc (.cells #[.int .u8 y, .bool true, .bool false, .int .i64 0, .int .i64 0] 100)).setCell ⟨w.heap.size, 0, none⟩ (.int .u8 y)).setCell ⟨w.heap.size, 1, none⟩ (.bool true)).setCell ⟨w.heap.size, 2, none⟩ (.bool false)).setCell ⟨w.heap.size, 3, none⟩ (.int .i64 0)).setCell ⟨w.heap.size, 4, none⟩ (.int .i64 0) = X at HF HG ⊢
    obtain ⟨c0, c1, c2, c3, c4⟩ := laid5 HF.out
    exact bodyPost_ret (v := .agg #[.int .u8 y, .bool true, .bool false, .int .i64 0, .int .i64 0]) (by simp [results, Tryd.results86, go_sem, c0, c1, c2, c3, c4]; try rfl) rfl ⟨rfl, HG.out⟩
  · go_enter Tryd.func86, Tryd.ntmps86
    go_wp2_with (go_at_call 107; go_loud (refine (noPane_any _).mono ?_; rintro e_ w1 ⟨rfl, hb1⟩; have hz := (hb1.block _ (by rw [World.size_alloc]; omega)).trans (heap_alloc_new w _); have HB1 := Lib.hid (((Below.refl _ w).alloc (Nat.le_refl _) _).trans (hb1.mono (by simp))); have hlt := blk_lt hz; have hzz : ∀ o, (w1.alloc o).heap[w.heap.size]? = _ := fun o => (((Below.refl w1.heap.size w1).alloc (Nat.le_refl _) o).block _ hlt).trans hz; obtain ⟨x0, x1, x2, x3, x4⟩ := (⟨fun o => (laid5 (hzz o)).1, fun o => (laid5 (hzz o)).2.1, fun o => (laid5 (hzz o)).2.2.1, fun o => (laid5 (hzz o)).2.2.2.1, fun o => (laid5 (hzz o)).2.2.2.2⟩ : (∀ o, (w1.alloc o).cell? ⟨w.heap.size, 0, none⟩ = _) ∧ (∀ o, (w1.alloc o).cell? ⟨w.heap.size, 1, none⟩ = _) ∧ (∀ o, (w1.alloc o).cell? ⟨w.heap.size, 2, none⟩ = _) ∧ (∀ o, (w1.alloc o).cell? ⟨w.heap.size, 3, none⟩ = _) ∧ (∀ o, (w1.alloc o).cell? ⟨w.heap.size, 4, none⟩ = _)); obtain ⟨y0, y1, y2, y3, y4⟩ := (⟨fun o => (open5 (hzz o)).1, fun o => (open5 (hzz o)).2.1, fun o => (open5 (hzz o)).2.2.1, fun o => (open5 (hzz o)).2.2.2.1, fun o => (open5 (hzz o)).2.2.2.2⟩ : (∀ o, (w1.alloc o).frozen? ⟨w.heap.size, 0, none⟩ = _) ∧ (∀ o, (w1.alloc o).frozen? ⟨w.heap.size, 1, none⟩ = _) ∧ (∀ o, (w1.alloc o).frozen? ⟨w.heap.size, 2, none⟩ = _) ∧ (∀ o, (w1.alloc o).frozen? ⟨w.heap.size, 3, none⟩ = _) ∧ (∀ o, (w1.alloc o).frozen? ⟨w.heap.size, 4, none⟩ = _)); have HZ := Lib.hid hzz; clear hb1 hz hzz hlt))
    have HF := Lib.hid (set5 (HZ.out (.cells #[.int .u8 y, .bool false, .bool true, .int .i64 0, .int .i64 0] 100)) (.int .u8 y) (.bool false) (.bool true) (.int .i64 0) (.int .i64 0))
    have HG := Lib.hid ((HB1.out.alloc HB1.out.size (.cells #[.int .u8 y, .bool false, .bool true, .int .i64 0, .int .i64 0] 100)).trans (set5_below (Nat.le_refl w.heap.size) (.int .u8 y) (.bool false) (.bool true) (.int .i64 0) (.int .i64 0)))
    clear x0 x1 x2 x3 x4 y0 y1 y2 y3 y4
    generalize (((((w1.alloc (.cells #[.int .u8 y, .bool false, .bool true, .int .i64 0, .int .i64 0] 100)).setCell ⟨w.heap.size, 0, none⟩ (.int .u8 y)).setCell ⟨w.heap.size, 1, none⟩ (.bool false)).setCell ⟨w.heap.size, 2, none⟩ (.bool true)).setCell ⟨w.heap.size, 3, none⟩ (.int .i64 0)).setCell ⟨w.heap.size, 4, none⟩ (.int .i64 0) = X at HF HG ⊢
    obtain ⟨c0, c1, c2, c3, c4⟩ := laid5 HF.out
    exact bodyPost_ret (v := .agg #[.int .u8 y, .bool false, .bool true, .int .i64 0, .int .i64 0]) (by simp [results, Tryd.results86, go_sem, c0, c1, c2, c3, c4]; try rfl) rfl ⟨rfl, HG.out⟩
  · go_enter Tryd.func86, Tryd.ntmps86
    go_wp2_with (go_at_call 107; go_loud (refine (noPane_any _).mono ?_; rintro e_ w1 ⟨rfl, hb1⟩; have hz := (hb1.block _ (by rw [World.size_alloc]; omega)).trans (heap_alloc_new w _); have HB1 := Lib.hid (((Below.refl _ w).alloc (Nat.le_refl _) _).trans (hb1.mono (by simp))); have hlt := blk_lt hz; have hzz : ∀ o, (w1.alloc o).heap[w.heap.size]? = _ := fun o => (((Below.refl w1.heap.size w1).alloc (Nat.le_refl _) o).block _ hlt).trans hz; obtain ⟨x0, x1, x2, x3, x4⟩ := (⟨fun o => (laid5 (hzz o)).1, fun o => (laid5 (hzz o)).2.1, fun o => (laid5 (hzz o)).2.2.1, fun o => (laid5 (hzz o)).2.2.2.1, fun o => (laid5 (hzz o)).2.2.2.2⟩ : (∀ o, (w1.alloc o).cell? ⟨w.heap.size, 0, none⟩ = _) ∧ (∀ o, (w1.alloc o).cell? ⟨w.heap.size, 1, none⟩ = _) ∧ (∀ o, (w1.alloc o).cell? ⟨w.heap.size, 2, none⟩ = _) ∧ (∀ o, (w1.alloc o).cell? ⟨w.heap.size, 3, none⟩ = _) ∧ (∀ o, (w1.alloc o).cell? ⟨w.heap.size, 4, none⟩ = _)); obtain ⟨y0, y1, y2, y3, y4⟩ := (⟨fun o => (open5 (hzz o)).1, fun o => (open5 (hzz o)).2.1, fun o => (open5 (hzz o)).2.2.1, fun o => (open5 (hzz o)).2.2.2.1, fun o => (open5 (hzz o)).2.2.2.2⟩ : (∀ o, (w1.alloc o).frozen? ⟨w.heap.size, 0, none⟩ = _) ∧ (∀ o, (w1.alloc o).frozen? ⟨w.heap.size, 1, none⟩ = _) ∧ (∀ o, (w1.alloc o).frozen? ⟨w.heap.size, 2, none⟩ = _) ∧ (∀ o, (w1.alloc o).frozen? ⟨w.heap.size, 3, none⟩ = _) ∧ (∀ o, (w1.alloc o).frozen? ⟨w.heap.size, 4, none⟩ = _)); have HZ := Lib.hid hzz; clear hb1 hz hzz hlt))
    have HF := Lib.hid (set5 (HZ.out (.cells #[.int .u8 y, .bool false, .bool false, .int .i64 0, .int .i64 0] 100)) (.int .u8 y) (.bool false) (.bool false) (.int .i64 0) (.int .i64 0))
    have HG := Lib.hid ((HB1.out.alloc HB1.out.size (.cells #[.int .u8 y, .bool false, .bool false, .int .i64 0, .int .i64 0] 100)).trans (set5_below (Nat.le_refl w.heap.size) (.int .u8 y) (.bool false) (.bool false) (.int .i64 0) (.int .i64 0)))
    clear x0 x1 x2 x3 x4 y0 y1 y2 y3 y4
    generalize (((((w1.alloc (.cells #[.int .u8 y, .bool false, .bool false, .int .i64 0, .int .i64 0] 100)).setCell ⟨w.heap.size, 0, none⟩ (.int .u8 y)).setCell ⟨w.heap.size, 1, none⟩ (.bool false)).setCell ⟨w.heap.size, 2, none⟩ (.bool false)).setCell ⟨w.heap.size, 3, none⟩ (.int .i64 0)).setCell ⟨w.heap.size, 4, none⟩ (.int .i64 0) = X at HF HG ⊢
    obtain ⟨c0, c1, c2, c3, c4⟩ := laid5 HF.out
    exact bodyPost_ret (v := .agg #[.int .u8 y, .bool false, .bool false, .int .i64 0, .int .i64 0]) (by simp [results, Tryd.results86, go_sem, c0, c1, c2, c3, c4]; try rfl) rfl ⟨rfl, HG.out⟩
end Go.Proofs.YtgdbeiadlgkedaaDoor
set_option linter.unusedVariables false
set_option linter.unusedSimpArgs false
namespace Go.Proofs.YtgdbeiadlgkedaaDoor
open Go.Joins Go.ChangeShapes Go.WideShapes Go.RowKit Go.Deep
theorem read_val {H : Type} {enc : TypeId × Value → H} {W : World} {base : Nat} {sp : Nat → Bool} {held : Bool} {fuel : Nat} {cs : List Value} {x : DataW H × List MemPlace} (hl : cs.length = 11) (hx : DataW.trod enc Tryd.prog W base sp held fuel 26 cs = some x) :
    ∃ (a0 : Int) (a1 : Bool) (a2 : Int) (a3 : Int) (a4 : Int) (a5 : ByteArray) (a6 : Int) (a7 : Bool) (a8 : Bool) (a9 : Int) (a10 : Int), cs = [.int .i64 a0, .bool a1, .int .i64 a2, .int .u64 a3, .int .u64 a4, .string a5, .int .i64 a6, .bool a7, .bool a8, .int .i64 a9, .int .i64 a10] ∧ (Lit.int .i64 a0).wf = true ∧ (Lit.int .i64 a2).wf = true ∧ (Lit.int .u64 a3).wf = true ∧ (Lit.int .u64 a4).wf = true ∧ (Lit.int .i64 a6).wf = true ∧ (Lit.int .i64 a9).wf = true ∧ (Lit.int .i64 a10).wf = true := by
  match cs, hl with
  | [c0, c1, c2, c3, c4, c5, c6, c7, c8, c9, c10], _ =>
    obtain ⟨ys, n, _, rfl, _, hlen, hf⟩ := DataW.trod_struct Tryd.underlying26 hx
    have hlen' : ys.length = 7 := hlen
    match ys, hlen' with
    | [y0, y1, y2, y3, y4, y5, y6], _ =>
      have g0 := hf 0 _ rfl
      have g1 := hf 1 _ rfl
      have g2 := hf 2 _ rfl
      have g3 := hf 3 _ rfl
      have g4 := hf 4 _ rfl
      have g5 := hf 5 _ rfl
      have g6 := hf 6 _ rfl
      simp only [List.getElem_toArray, List.getElem_cons_zero, List.getElem_cons_succ, List.drop, List.take, List.getElem?_cons_zero, List.getElem?_cons_succ, show Tryd.prog.cellsOf 2 = 1 from by kernel_rfl, show Tryd.prog.cellsOf 4 = 1 from by kernel_rfl, show Tryd.prog.cellsOf 9 = 1 from by kernel_rfl, show Tryd.prog.cellsOf 22 = 1 from by kernel_rfl, show Tryd.prog.cellsOf 24 = 5 from by kernel_rfl] at g0 g1 g2 g3 g4 g5 g6
      obtain ⟨zs, n2, _, rfl, _, hlen2, hf2⟩ := DataW.trod_struct Tryd.underlying24 g6
      have hlen2' : zs.length = 5 := hlen2
      match zs, hlen2' with
      | [z0, z1, z2, z3, z4], _ =>
        have g60 := hf2 0 _ rfl
        have g7 := hf2 1 _ rfl
        have g8 := hf2 2 _ rfl
        have g9 := hf2 3 _ rfl
        have g10 := hf2 4 _ rfl
        simp only [List.getElem_toArray, List.getElem_cons_zero, List.getElem_cons_succ, List.drop, List.take, List.getElem?_cons_zero, List.getElem?_cons_succ, show Tryd.prog.cellsOf 2 = 1 from by kernel_rfl, show Tryd.prog.cellsOf 4 = 1 from by kernel_rfl, show Tryd.prog.cellsOf 9 = 1 from by kernel_rfl, show Tryd.prog.cellsOf 22 = 1 from by kernel_rfl, show Tryd.prog.cellsOf 24 = 5 from by kernel_rfl] at g60 g7 g8 g9 g10
        obtain ⟨a0, e0, _, w0⟩ := DataW.trod_int Tryd.underlying2 g0
        obtain ⟨a1, e1, _⟩ := DataW.trod_bool Tryd.underlying4 g1
        obtain ⟨a2, e2, _, w2⟩ := DataW.trod_int Tryd.underlying2 g2
        obtain ⟨a3, e3, _, w3⟩ := DataW.trod_int Tryd.underlying22 g3
        obtain ⟨a4, e4, _, w4⟩ := DataW.trod_int Tryd.underlying22 g4
        obtain ⟨a5, e5, _, _⟩ := DataW.trod_string Tryd.underlying9 g5
        obtain ⟨a6, e6, _, w6⟩ := DataW.trod_int Tryd.underlying2 g60
        obtain ⟨a7, e7, _⟩ := DataW.trod_bool Tryd.underlying4 g7
        obtain ⟨a8, e8, _⟩ := DataW.trod_bool Tryd.underlying4 g8
        obtain ⟨a9, e9, _, w9⟩ := DataW.trod_int Tryd.underlying2 g9
        obtain ⟨a10, e10, _, w10⟩ := DataW.trod_int Tryd.underlying2 g10
        simp only [List.cons.injEq, and_true] at e0 e1 e2 e3 e4 e5 e6 e7 e8 e9 e10
        subst e0 e1 e2 e3 e4 e5 e6 e7 e8 e9 e10
        exact ⟨a0, a1, a2, a3, a4, a5, a6, a7, a8, a9, a10, rfl, w0, w2, w3, w4, w6, w9, w10⟩
theorem i64_rng {a : Int} (h : (Lit.int .i64 a).wf = true) : -9223372036854775808 ≤ a ∧ a ≤ 9223372036854775807 := by
  have hmin : IntKind.i64.min = -9223372036854775808 := rfl
  have hmax : IntKind.i64.max = 9223372036854775807 := rfl
  simp only [Lit.wf, Bool.and_eq_true, decide_eq_true_eq] at h
  omega
theorem u64_rng {a : Int} (h : (Lit.int .u64 a).wf = true) : 0 ≤ a ∧ a < 18446744073709551616 := by
  have hmin : IntKind.u64.min = 0 := rfl
  have hmax : IntKind.u64.max = 18446744073709551615 := rfl
  simp only [Lit.wf, Bool.and_eq_true, decide_eq_true_eq] at h
  omega
end Go.Proofs.YtgdbeiadlgkedaaDoor
