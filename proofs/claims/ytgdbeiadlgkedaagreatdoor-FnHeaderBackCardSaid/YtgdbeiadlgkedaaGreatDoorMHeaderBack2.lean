/- Contracts and plain laws, several texts in one. -/
import Derived.Test.YtgdbeiadlgkedaaGreatDoorMHeaderBack1
import Derived.LaidEql
import Derived.Lib.ConvBytes
import Derived.Lib.SmallJoins
namespace Go.Proofs.YtgdbeiadlgkedaaGreatDoor
open Go.RowKit
open Go.Joins (below_bytesWorld)
set_option linter.unusedVariables false
set_option linter.unusedSimpArgs false
theorem Rd.keptRG {r g : Nat} {l : List UInt8} {i : Nat} {w w' : World} (h : Rd r g l i w) (hr : w'.heap[r]? = w.heap[r]?) (hg : w'.heap[g]? = w.heap[g]?) : Rd r g l i w' := by
  obtain ⟨c, pv, h1, h2, h3, h4, h5, h6, ⟨o, h7⟩, h8⟩ := h
  exact ⟨c, pv, hr.trans h1, h2, h3, h4, h5, h6, ⟨o, hg.trans h7⟩, fun j x hj => (World.cell?_of_block (a := ⟨g, j, none⟩) hg).trans (h8 j x hj)⟩
theorem Rd.set {r g : Nat} {l : List UInt8} {i : Nat} {w : World} (h : Rd r g l i w) (a : Addr) (v : Value) (hr : a.block ≠ r) (hg : a.block ≠ g) : Rd r g l i (w.setCell a v) :=
  h.keptRG (Below.heap_setCell _ _ _ _ (fun e => hr e.symm)) (Below.heap_setCell _ _ _ _ (fun e => hg e.symm))
theorem newRd_any (w0 : World) (b : Nat) (hb : w0.heap.size = b) (s : ByteArray) (hs : s.size ≤ 4294967296) :
    Calls Tryz.prog 42 #[.slice (some ⟨b, 0, none⟩) s.size (grownCap w0 s.size 0 5)] (Lib.bytesWorld w0 5 s) fun e w' => ∃ r, e = .returned (.pointer (some ⟨r, 0, none⟩)) ∧ Rd r b s.data.toList 0 w' ∧ Below w0.heap.size w0 w' ∧ b < r := by
  subst hb
  refine (newReader_any _ _ _ _).mono fun e w' ⟨he, hw⟩ => ⟨_, he, ?_, ?_, ?_⟩
  · subst hw
    have hsz : s.size = s.data.toList.length := by rw [Array.length_toList]; rfl
    have hn := Lib.bytesWorld_at_new w0 5 s
    have hlt : w0.heap.size < (Lib.bytesWorld w0 5 s).heap.size := by rw [Lib.bytesWorld_size]; omega
    have e0 := Below.heap_alloc (Lib.bytesWorld w0 5 s) (.cells #[.slice (some ⟨w0.heap.size, 0, none⟩) s.size (grownCap w0 s.size 0 5), .int .i64 0, .int .i64 (-1)] 196) w0.heap.size hlt
    refine ⟨grownCap w0 s.size 0 5, -1, ?_, by omega, by rw [← hsz]; exact grownCap_ge _ _ _ _, ?_, Nat.zero_le _, by rw [← hsz]; exact hs, ⟨_, e0.trans hn⟩, ?_⟩
    · rw [← hsz]; exact heap_alloc_new _ _
    · have := grownCap_le_maxLen w0 s.size 0 5 (by unfold maxLen; omega)
      unfold maxLen at this; omega
    · intro j x hj
      have hjl : j < s.size := by rw [hsz]; exact (List.getElem?_eq_some_iff.1 hj).1
      have := Lib.bytesWorld_cell w0 5 s j hjl
      rw [List.getD_eq_getElem?_getD, hj] at this
      exact (World.cell?_of_block (a := ⟨w0.heap.size, j, none⟩) e0).trans this
  · subst hw
    exact (below_bytesWorld _ w0 _ s (Nat.le_refl _)).trans ((Below.refl _ _).alloc (by rw [Lib.bytesWorld_size]; omega) _)
  · rw [Lib.bytesWorld_size]; omega
theorem conv_bytes : ∀ (W : World) (s : ByteArray), (convert 9 77 (.string s)).run Tryz.prog W = .ok (.slice (some ⟨W.heap.size, 0, none⟩) s.size (grownCap W s.size 0 5)) (Lib.bytesWorld W 5 s) := fun W s => Lib.run_convert_string_bytes (P := Tryz.prog) W _ _ _ s Tryz.underlying9 Tryz.underlying77 Tryz.underlying5
theorem setCells_self (b : Nat) (T : TypeId) (fr : Nat × Nat) (cs : Array Value) : ∀ (vs : List Value) (o : Nat) (w : World), w.heap[b]? = some (.cells cs T fr) → (∀ j v, vs[j]? = some v → cs[o + j]? = some v) → (w.setCells b o vs).heap[b]? = some (.cells cs T fr)
  | [], _, _, h, _ => h
  | v :: r, o, w, h, hv => by
    have e : cs.setIfInBounds o v = cs := by
      apply Array.ext_getElem?
      intro i
      rw [Array.getElem?_setIfInBounds]
      split
      · rename_i hi
        subst hi
        split
        · have := hv 0 v rfl; rw [Nat.add_zero] at this; exact this.symm
        · rw [Array.getElem?_eq_none (by omega)]
      · rfl
    have h1 := Lib.heap_setCell_same (i := o) h v
    rw [e] at h1
    exact setCells_self b T fr cs r (o + 1) _ h1 (fun j u hj => by rw [show o + 1 + j = o + (j + 1) by omega]; exact hv (j + 1) u hj)
theorem dv_below {w w1 w2 W : World} {r q : Nat} {a : Addr} {v v2 : Value} (h1 : Below w.heap.size w w1) (hg : (w1.setCell ⟨w.heap.size, 0, none⟩ v).grownBy w2 (some r)) (hW : W = w2.setCell a v2) (hr : w.heap.size ≤ r) (ha : w.heap.size ≤ a.block := by exact Nat.le_refl _) : Below w.heap.size w (W.drewN q) := by
  have h2 : Below w.heap.size w (w1.setCell ⟨w.heap.size, 0, none⟩ v) := h1.setCell (p := ⟨w.heap.size, 0, none⟩) (Nat.le_refl _) v
  have h3 : Below w.heap.size w w2 := h2.trans (grown_below hg h2.size hr)
  subst hW
  have h4 := h3.setCell (p := a) ha v2
  exact ⟨h4.os, h4.tape, h4.output, h4.size, h4.block⟩
abbrev zv (k : Int) : Array Value := #[.int .i64 k, .bool false, .int .i64 0, .int .u64 0, .int .u64 0, .string ⟨#[]⟩, .int .i64 0, .bool false, .bool false, .int .i64 0, .int .i64 0]
theorem dv_start {w w1 : World} {O : Obj} {B r b : Nat} {pe pl : Addr} (hB : B ≤ w.heap.size) (he : Env B pe pl w) (hw : Below (w.alloc O).heap.size (w.alloc O) w1) (hr : w.heap.size + 1 < r) :
    w1.heap[w.heap.size]? = some O ∧ Env B pe pl w1 ∧ Below w.heap.size w w1 ∧ B ≤ r :=
  have h0 : Below w.heap.size w w1 := ((Below.refl _ w).alloc (Nat.le_refl _) O).trans (hw.mono (by simp))
  ⟨(hw.block _ (by simp)).trans (heap_alloc_new w O), he.below (h0.mono hB), h0, by omega⟩
end Go.Proofs.YtgdbeiadlgkedaaGreatDoor
namespace Go.Proofs.YtgdbeiadlgkedaaGreatDoor
open Go.RowKit
set_option linter.unusedVariables false
set_option linter.unusedSimpArgs false
theorem and1 (b : Nat) (h : b < 256) : bits .and .u8 (b : Int) 1 = ((b % 2 : Nat) : Int) := by
  have : ∀ b : Fin 256, bits .and .u8 ((b : Nat) : Int) 1 = (((b : Nat) % 2 : Nat) : Int) := by decide +kernel
  exact this ⟨b, h⟩
theorem and2 (b : Nat) (h : b < 256) : bits .and .u8 (b : Int) 2 = ((b / 2 % 2 * 2 : Nat) : Int) := by
  have : ∀ b : Fin 256, bits .and .u8 ((b : Nat) : Int) 2 = (((b : Nat) / 2 % 2 * 2 : Nat) : Int) := by decide +kernel
  exact this ⟨b, h⟩
theorem and3 (b : Nat) (h : b < 256) : bits .and .u8 (b : Int) 3 = ((b % 4 : Nat) : Int) := by
  have : ∀ b : Fin 256, bits .and .u8 ((b : Nat) : Int) 3 = (((b : Nat) % 4 : Nat) : Int) := by decide +kernel
  exact this ⟨b, h⟩
set_option maxHeartbeats 4000000 in
set_option maxRecDepth 100000 in
theorem noPane_any (w : World) :
    Calls Tryz.prog 98 #[] w fun e w' => e = .returned (.agg #[.int .u8 3, .bool true, .bool true, .int .i64 0, .int .i64 0]) ∧ Below w.heap.size w w' := by
  go_enter Tryz.func98, Tryz.ntmps98
  go_wp2
  obtain ⟨X, hX⟩ : ∃ X, X = w.alloc (.cells #[.int .u8 3, .bool true, .bool true, .int .i64 0, .int .i64 0] 119) := ⟨_, rfl⟩
  have hb : X.heap[w.heap.size]? = some (.cells #[.int .u8 3, .bool true, .bool true, .int .i64 0, .int .i64 0] 119 (0, 0)) := by rw [hX]; exact heap_alloc_new w _
  have HX := Lib.hid (show Below w.heap.size w X by rw [hX]; exact (Below.refl _ w).alloc (Nat.le_refl _) _)
  rw [← hX]
  clear hX
  have c0 : X.cell? ⟨w.heap.size, 0, none⟩ = some (.int .u8 3) := (blk_cell hb 0).trans rfl
  have c1 : X.cell? ⟨w.heap.size, 1, none⟩ = some (.bool true) := (blk_cell hb 1).trans rfl
  have c2 : X.cell? ⟨w.heap.size, 2, none⟩ = some (.bool true) := (blk_cell hb 2).trans rfl
  have c3 : X.cell? ⟨w.heap.size, 3, none⟩ = some (.int .i64 0) := (blk_cell hb 3).trans rfl
  have c4 : X.cell? ⟨w.heap.size, 4, none⟩ = some (.int .i64 0) := (blk_cell hb 4).trans rfl
  clear hb
  exact bodyPost_ret (v := .agg #[.int .u8 3, .bool true, .bool true, .int .i64 0, .int .i64 0]) (by simp [results, Tryz.results98, go_sem, c0, c1, c2, c3, c4]; try rfl) rfl ⟨rfl, HX.out⟩
set_option maxHeartbeats 4000000 in
set_option maxRecDepth 100000 in
theorem backPane_any (t : Nat) (f l : Bool) (i n : Int) (ht : t < 256) (w : World) :
    Calls Tryz.prog 55 #[.agg #[.int .u8 t, .bool f, .bool l, .int .i64 i, .int .i64 n]] w fun e w' => e = .returned (.agg #[.int .i64 t, .bool f, .bool l, .int .i64 i, .int .i64 n]) ∧ Below w.heap.size w w' := by
  have q1 : IntKind.i64.wrap (t : Int) = (t : Int) := IntWalk.i64_in _ (by omega)
  have q2 : wrap64 (t : Int) = (t : Int) := IntWalk.wrap64_in _ (by omega)
  clear ht
  go_enter Tryz.func55, Tryz.ntmps55
  go_wp2
  obtain ⟨X, hX⟩ : ∃ X, X = (w.alloc (.cells #[.int .u8 t, .bool f, .bool l, .int .i64 i, .int .i64 n] 119)).alloc (.cells #[.int .i64 t, .bool f, .bool l, .int .i64 i, .int .i64 n] 42) := ⟨_, rfl⟩
  have hb : X.heap[w.heap.size + 1]? = some (.cells #[.int .i64 t, .bool f, .bool l, .int .i64 i, .int .i64 n] 42 (0, 0)) := by rw [hX]; have := heap_alloc_new (w.alloc (.cells #[.int .u8 t, .bool f, .bool l, .int .i64 i, .int .i64 n] 119)) (.cells #[.int .i64 t, .bool f, .bool l, .int .i64 i, .int .i64 n] 42); rwa [World.size_alloc] at this
  have HX := Lib.hid (show Below w.heap.size w X by rw [hX]; exact ((Below.refl _ w).alloc (Nat.le_refl _) _).alloc (by rw [World.size_alloc]; omega) _)
  rw [← hX]
  clear hX
  have c0 : X.cell? ⟨w.heap.size + 1, 0, none⟩ = some (.int .i64 t) := (blk_cell hb 0).trans rfl
  have c1 : X.cell? ⟨w.heap.size + 1, 1, none⟩ = some (.bool f) := (blk_cell hb 1).trans rfl
  have c2 : X.cell? ⟨w.heap.size + 1, 2, none⟩ = some (.bool l) := (blk_cell hb 2).trans rfl
  have c3 : X.cell? ⟨w.heap.size + 1, 3, none⟩ = some (.int .i64 i) := (blk_cell hb 3).trans rfl
  have c4 : X.cell? ⟨w.heap.size + 1, 4, none⟩ = some (.int .i64 n) := (blk_cell hb 4).trans rfl
  clear hb
  exact bodyPost_ret (v := .agg #[.int .i64 t, .bool f, .bool l, .int .i64 i, .int .i64 n]) (by simp [results, Tryz.results55, go_sem, c0, c1, c2, c3, c4]; try rfl) rfl ⟨rfl, HX.out⟩
theorem set5 {W : World} {b : Nat} {a0 a1 a2 a3 a4 : Value} {T : TypeId} {fr : Nat × Nat} (h : W.heap[b]? = some (.cells #[a0, a1, a2, a3, a4] T fr)) (v0 v1 v2 v3 v4 : Value) :
    (((((W.setCell ⟨b, 0, none⟩ v0).setCell ⟨b, 1, none⟩ v1).setCell ⟨b, 2, none⟩ v2).setCell ⟨b, 3, none⟩ v3).setCell ⟨b, 4, none⟩ v4).heap[b]? = some (.cells #[v0, v1, v2, v3, v4] T fr) := by
  have h0 : (W.setCell ⟨b, 0, none⟩ v0).heap[b]? = some (.cells #[v0, a1, a2, a3, a4] T fr) := (Lib.heap_setCell_same (i := 0) h v0).trans rfl
  have h1 : ((W.setCell ⟨b, 0, none⟩ v0).setCell ⟨b, 1, none⟩ v1).heap[b]? = some (.cells #[v0, v1, a2, a3, a4] T fr) := (Lib.heap_setCell_same (i := 1) h0 v1).trans rfl
  have h2 : (((W.setCell ⟨b, 0, none⟩ v0).setCell ⟨b, 1, none⟩ v1).setCell ⟨b, 2, none⟩ v2).heap[b]? = some (.cells #[v0, v1, v2, a3, a4] T fr) := (Lib.heap_setCell_same (i := 2) h1 v2).trans rfl
  have h3 : ((((W.setCell ⟨b, 0, none⟩ v0).setCell ⟨b, 1, none⟩ v1).setCell ⟨b, 2, none⟩ v2).setCell ⟨b, 3, none⟩ v3).heap[b]? = some (.cells #[v0, v1, v2, v3, a4] T fr) := (Lib.heap_setCell_same (i := 3) h2 v3).trans rfl
  exact (Lib.heap_setCell_same (i := 4) h3 v4).trans rfl
theorem set5_below {W : World} {b B : Nat} (hb : B ≤ b) (v0 v1 v2 v3 v4 : Value) :
    Below B W (((((W.setCell ⟨b, 0, none⟩ v0).setCell ⟨b, 1, none⟩ v1).setCell ⟨b, 2, none⟩ v2).setCell ⟨b, 3, none⟩ v3).setCell ⟨b, 4, none⟩ v4) :=
  (((((Below.refl B W).setCell (p := ⟨b, 0, none⟩) hb v0).setCell (p := ⟨b, 1, none⟩) hb v1).setCell (p := ⟨b, 2, none⟩) hb v2).setCell (p := ⟨b, 3, none⟩) hb v3).setCell (p := ⟨b, 4, none⟩) hb v4
theorem laid5 {X : World} {b : Nat} {v0 v1 v2 v3 v4 : Value} {T : TypeId} (h : X.heap[b]? = some (.cells #[v0, v1, v2, v3, v4] T (0, 0))) :
    X.cell? ⟨b, 0, none⟩ = some v0 ∧ X.cell? ⟨b, 1, none⟩ = some v1 ∧ X.cell? ⟨b, 2, none⟩ = some v2 ∧ X.cell? ⟨b, 3, none⟩ = some v3 ∧ X.cell? ⟨b, 4, none⟩ = some v4 :=
  ⟨(blk_cell h 0).trans rfl, (blk_cell h 1).trans rfl, (blk_cell h 2).trans rfl, (blk_cell h 3).trans rfl, (blk_cell h 4).trans rfl⟩
theorem open5 {X : World} {b : Nat} {v0 v1 v2 v3 v4 : Value} {T : TypeId} (h : X.heap[b]? = some (.cells #[v0, v1, v2, v3, v4] T (0, 0))) :
    X.frozen? ⟨b, 0, none⟩ = false ∧ X.frozen? ⟨b, 1, none⟩ = false ∧ X.frozen? ⟨b, 2, none⟩ = false ∧ X.frozen? ⟨b, 3, none⟩ = false ∧ X.frozen? ⟨b, 4, none⟩ = false :=
  ⟨blk_frozen h 0, blk_frozen h 1, blk_frozen h 2, blk_frozen h 3, blk_frozen h 4⟩
set_option maxHeartbeats 4000000 in
set_option maxRecDepth 100000 in
theorem newPane_any (b : Nat) (hb : b < 256) (w : World) :
    Calls Tryz.prog 62 #[.int .u8 b] w fun e w' => e = .returned (.agg #[.int .u8 (b / 4 % 4 : Nat), .bool (b % 2 = 1), .bool (b / 2 % 2 = 1), .int .i64 0, .int .i64 0]) ∧ Below w.heap.size w w' := by
  have a1 := and1 b hb
  have a2 := and2 b hb
  obtain ⟨q, hq⟩ : ∃ q, Hid (b / 4 = q) := ⟨_, Lib.hid rfl⟩
  have a0 : (b : Int) / 4 = (q : Int) := by have := hq.out; omega
  have a3 := and3 q (by have := hq.out; omega)
  obtain ⟨y, hy⟩ : ∃ y, Hid (q % 4 = y) := ⟨_, Lib.hid rfl⟩
  rw [hy.out] at a3
  rw [hq.out, hy.out]
  clear hb
  have e2 : ∀ x, x % 2 = 1 ∨ x % 2 = 0 := fun x => by omega
  rcases e2 b with h1 | h1 <;> rcases e2 (b / 2) with h2 | h2 <;> rw [h1] at a1 <;> rw [h2] at a2 <;> simp only [h1, h2, decide_true, show decide ((0 : Nat) = 1) = false from rfl]
  · go_enter Tryz.func62, Tryz.ntmps62
    go_wp2_with (go_at_call 98; go_loud (refine (noPane_any _).mono ?_; rintro e_ w1 ⟨rfl, hb1⟩; have hz := (hb1.block _ (by rw [World.size_alloc]; omega)).trans (heap_alloc_new w _); have HB1 := Lib.hid (((Below.refl _ w).alloc (Nat.le_refl _) _).trans (hb1.mono (by simp))); have hlt := blk_lt hz; have hzz : ∀ o, (w1.alloc o).heap[w.heap.size]? = _ := fun o => (((Below.refl w1.heap.size w1).alloc (Nat.le_refl _) o).block _ hlt).trans hz; obtain ⟨x0, x1, x2, x3, x4⟩ := (⟨fun o => (laid5 (hzz o)).1, fun o => (laid5 (hzz o)).2.1, fun o => (laid5 (hzz o)).2.2.1, fun o => (laid5 (hzz o)).2.2.2.1, fun o => (laid5 (hzz o)).2.2.2.2⟩ : (∀ o, (w1.alloc o).cell? ⟨w.heap.size, 0, none⟩ = _) ∧ (∀ o, (w1.alloc o).cell? ⟨w.heap.size, 1, none⟩ = _) ∧ (∀ o, (w1.alloc o).cell? ⟨w.heap.size, 2, none⟩ = _) ∧ (∀ o, (w1.alloc o).cell? ⟨w.heap.size, 3, none⟩ = _) ∧ (∀ o, (w1.alloc o).cell? ⟨w.heap.size, 4, none⟩ = _)); obtain ⟨y0, y1, y2, y3, y4⟩ := (⟨fun o => (open5 (hzz o)).1, fun o => (open5 (hzz o)).2.1, fun o => (open5 (hzz o)).2.2.1, fun o => (open5 (hzz o)).2.2.2.1, fun o => (open5 (hzz o)).2.2.2.2⟩ : (∀ o, (w1.alloc o).frozen? ⟨w.heap.size, 0, none⟩ = _) ∧ (∀ o, (w1.alloc o).frozen? ⟨w.heap.size, 1, none⟩ = _) ∧ (∀ o, (w1.alloc o).frozen? ⟨w.heap.size, 2, none⟩ = _) ∧ (∀ o, (w1.alloc o).frozen? ⟨w.heap.size, 3, none⟩ = _) ∧ (∀ o, (w1.alloc o).frozen? ⟨w.heap.size, 4, none⟩ = _)); have HZ := Lib.hid hzz; clear hb1 hz hzz hlt))
    have HF := Lib.hid (set5 (HZ.out (.cells #[.int .u8 y, .bool true, .bool true, .int .i64 0, .int .i64 0] 119)) (.int .u8 y) (.bool true) (.bool true) (.int .i64 0) (.int .i64 0))
    have HG := Lib.hid ((HB1.out.alloc HB1.out.size (.cells #[.int .u8 y, .bool true, .bool true, .int .i64 0, .int .i64 0] 119)).trans (set5_below (Nat.le_refl w.heap.size) (.int .u8 y) (.bool true) (.bool true) (.int .i64 0) (.int .i64 0)))
    clear x0 x1 x2 x3 x4 y0 y1 y2 y3 y4
    generalize (((((w1.alloc (.cells #[.int .u8 y, .bool true, .bool true, .int .i64 0, .int .i64 0] 119)).setCell ⟨w.heap.size, 0, none⟩ (.int .u8 y)).setCell ⟨w.heap.size, 1, none⟩ (.bool true)).setCell ⟨w.heap.size, 2, none⟩ (.bool true)).setCell ⟨w.heap.size, 3, none⟩ (.int .i64 0)).setCell ⟨w.heap.size, 4, none⟩ (.int .i64 0) = X at HF HG ⊢
    obtain ⟨c0, c1, c2, c3, c4⟩ := laid5 HF.out
    exact bodyPost_ret (v := .agg #[.int .u8 y, .bool true, .bool true, .int .i64 0, .int .i64 0]) (by simp [results, Tryz.results62, go_sem, c0, c1, c2, c3, c4]; try rfl) rfl ⟨rfl, HG.out⟩
  · go_enter Tryz.func62, Tryz.ntmps62
    go_wp2_with (go_at_call 98; go_loud (refine (noPane_any _).mono ?_; rintro e_ w1 ⟨rfl, hb1⟩; have hz := (hb1.block _ (by rw [World.size_alloc]; omega)).trans (heap_alloc_new w _); have HB1 := Lib.hid (((Below.refl _ w).alloc (Nat.le_refl _) _).trans (hb1.mono (by simp))); have hlt := blk_lt hz; have hzz : ∀ o, (w1.alloc o).heap[w.heap.size]? = _ := fun o => (((Below.refl w1.heap.size w1).alloc (Nat.le_refl _) o).block _ hlt).trans hz; obtain ⟨x0, x1, x2, x3, x4⟩ := (⟨fun o => (laid5 (hzz o)).1, fun o => (laid5 (hzz o)).2.1, fun o => (laid5 (hzz o)).2.2.1, fun o => (laid5 (hzz o)).2.2.2.1, fun o => (laid5 (hzz o)).2.2.2.2⟩ : (∀ o, (w1.alloc o).cell? ⟨w.heap.size, 0, none⟩ = _) ∧ (∀ o, (w1.alloc o).cell? ⟨w.heap.size, 1, none⟩ = _) ∧ (∀ o, (w1.alloc o).cell? ⟨w.heap.size, 2, none⟩ = _) ∧ (∀ o, (w1.alloc o).cell? ⟨w.heap.size, 3, none⟩ = _) ∧ (∀ o, (w1.alloc o).cell? ⟨w.heap.size, 4, none⟩ = _)); obtain ⟨y0, y1, y2, y3, y4⟩ := (⟨fun o => (open5 (hzz o)).1, fun o => (open5 (hzz o)).2.1, fun o => (open5 (hzz o)).2.2.1, fun o => (open5 (hzz o)).2.2.2.1, fun o => (open5 (hzz o)).2.2.2.2⟩ : (∀ o, (w1.alloc o).frozen? ⟨w.heap.size, 0, none⟩ = _) ∧ (∀ o, (w1.alloc o).frozen? ⟨w.heap.size, 1, none⟩ = _) ∧ (∀ o, (w1.alloc o).frozen? ⟨w.heap.size, 2, none⟩ = _) ∧ (∀ o, (w1.alloc o).frozen? ⟨w.heap.size, 3, none⟩ = _) ∧ (∀ o, (w1.alloc o).frozen? ⟨w.heap.size, 4, none⟩ = _)); have HZ := Lib.hid hzz; clear hb1 hz hzz hlt))
    have HF := Lib.hid (set5 (HZ.out (.cells #[.int .u8 y, .bool true, .bool false, .int .i64 0, .int .i64 0] 119)) (.int .u8 y) (.bool true) (.bool false) (.int .i64 0) (.int .i64 0))
    have HG := Lib.hid ((HB1.out.alloc HB1.out.size (.cells #[.int .u8 y, .bool true, .bool false, .int .i64 0, .int .i64 0] 119)).trans (set5_below (Nat.le_refl w.heap.size) (.int .u8 y) (.bool true) (.bool false) (.int .i64 0) (.int .i64 0)))
    clear x0 x1 x2 x3 x4 y0 y1 y2 y3 y4
    generalize (((((w1.alloc (.cells #[.int .u8 y, .bool true, .bool false, .int .i64 0, .int .i64 0] 119)).setCell ⟨w.heap.size, 0, none⟩ (.int .u8 y)).setCell ⟨w.heap.size, 1, none⟩ (.bool true)).setCell ⟨w.heap.size, 2, none⟩ (.bool false)).setCell ⟨w.heap.size, 3, none⟩ (.int .i64 0)).setCell ⟨w.heap.size, 4, none⟩ (.int .i64 0) = X at HF HG ⊢
    obtain ⟨c0, c1, c2, c3, c4⟩ := laid5 HF.out
    exact bodyPost_ret (v := .agg #[.int .u8 y, .bool true, .bool false, .int .i64 0, .int .i64 0]) (by simp [results, Tryz.results62, go_sem, c0, c1, c2, c3, c4]; try rfl) rfl ⟨rfl, HG.out⟩
  · go_enter Tryz.func62, Tryz.ntmps62
    go_wp2_with (go_at_call 98; go_loud (refine (noPane_any _).mono ?_; rintro e_ w1 ⟨rfl, hb1⟩; have hz := (hb1.block _ (by rw [World.size_alloc]; omega)).trans (heap_alloc_new w _); have HB1 := Lib.hid (((Below.refl _ w).alloc (Nat.le_refl _) _).trans (hb1.mono (by simp))); have hlt := blk_lt hz; have hzz : ∀ o, (w1.alloc o).heap[w.heap.size]? = _ := fun o => (((Below.refl w1.heap.size w1).alloc (Nat.le_refl _) o).block _ hlt).trans hz; obtain ⟨x0, x1, x2, x3, x4⟩ := (⟨fun o => (laid5 (hzz o)).1, fun o => (laid5 (hzz o)).2.1, fun o => (laid5 (hzz o)).2.2.1, fun o => (laid5 (hzz o)).2.2.2.1, fun o => (laid5 (hzz o)).2.2.2.2⟩ : (∀ o, (w1.alloc o).cell? ⟨w.heap.size, 0, none⟩ = _) ∧ (∀ o, (w1.alloc o).cell? ⟨w.heap.size, 1, none⟩ = _) ∧ (∀ o, (w1.alloc o).cell? ⟨w.heap.size, 2, none⟩ = _) ∧ (∀ o, (w1.alloc o).cell? ⟨w.heap.size, 3, none⟩ = _) ∧ (∀ o, (w1.alloc o).cell? ⟨w.heap.size, 4, none⟩ = _)); obtain ⟨y0, y1, y2, y3, y4⟩ := (⟨fun o => (open5 (hzz o)).1, fun o => (open5 (hzz o)).2.1, fun o => (open5 (hzz o)).2.2.1, fun o => (open5 (hzz o)).2.2.2.1, fun o => (open5 (hzz o)).2.2.2.2⟩ : (∀ o, (w1.alloc o).frozen? ⟨w.heap.size, 0, none⟩ = _) ∧ (∀ o, (w1.alloc o).frozen? ⟨w.heap.size, 1, none⟩ = _) ∧ (∀ o, (w1.alloc o).frozen? ⟨w.heap.size, 2, none⟩ = _) ∧ (∀ o, (w1.alloc o).frozen? ⟨w.heap.size, 3, none⟩ = _) ∧ (∀ o, (w1.alloc o).frozen? ⟨w.heap.size, 4, none⟩ = _)); have HZ := Lib.hid hzz; clear hb1 hz hzz hlt))
    have HF := Lib.hid (set5 (HZ.out (.cells #[.int .u8 y, .bool false, .bool true, .int .i64 0, .int .i64 0] 119)) (.int .u8 y) (.bool false) (.bool true) (.int .i64 0) (.int .i64 0))
    have HG := Lib.hid ((HB1.out.alloc HB1.out.size (.cells #[.int .u8 y, .bool false, .bool true, .int .i64 0, .int .i64 0] 119)).trans (set5_below (Nat.le_refl w.heap.size) (.int .u8 y) (.bool false) (.bool true) (.int .i64 0) (.int .i64 0)))
    clear x0 x1 x2 x3 x4 y0 y1 y2 y3 y4
    generalize (((((w1.alloc (.cells #[.int .u8 y, .bool false, .bool true, .int .i64 0, .int .i64 0] 119)).setCell ⟨w.heap.size, 0, none⟩ (.int .u8 y)).setCell ⟨w.heap.size, 1, none⟩ (.bool false)).setCell ⟨w.heap.size, 2, none⟩ (.bool true)).setCell ⟨w.heap.size, 3, none⟩ (.int .i64 0)).setCell ⟨w.heap.size, 4, none⟩ (.int .i64 0) = X at HF HG ⊢
    obtain ⟨c0, c1, c2, c3, c4⟩ := laid5 HF.out
    exact bodyPost_ret (v := .agg #[.int .u8 y, .bool false, .bool true, .int .i64 0, .int .i64 0]) (by simp [results, Tryz.results62, go_sem, c0, c1, c2, c3, c4]; try rfl) rfl ⟨rfl, HG.out⟩
  · go_enter Tryz.func62, Tryz.ntmps62
    go_wp2_with (go_at_call 98; go_loud (refine (noPane_any _).mono ?_; rintro e_ w1 ⟨rfl, hb1⟩; have hz := (hb1.block _ (by rw [World.size_alloc]; omega)).trans (heap_alloc_new w _); have HB1 := Lib.hid (((Below.refl _ w).alloc (Nat.le_refl _) _).trans (hb1.mono (by simp))); have hlt := blk_lt hz; have hzz : ∀ o, (w1.alloc o).heap[w.heap.size]? = _ := fun o => (((Below.refl w1.heap.size w1).alloc (Nat.le_refl _) o).block _ hlt).trans hz; obtain ⟨x0, x1, x2, x3, x4⟩ := (⟨fun o => (laid5 (hzz o)).1, fun o => (laid5 (hzz o)).2.1, fun o => (laid5 (hzz o)).2.2.1, fun o => (laid5 (hzz o)).2.2.2.1, fun o => (laid5 (hzz o)).2.2.2.2⟩ : (∀ o, (w1.alloc o).cell? ⟨w.heap.size, 0, none⟩ = _) ∧ (∀ o, (w1.alloc o).cell? ⟨w.heap.size, 1, none⟩ = _) ∧ (∀ o, (w1.alloc o).cell? ⟨w.heap.size, 2, none⟩ = _) ∧ (∀ o, (w1.alloc o).cell? ⟨w.heap.size, 3, none⟩ = _) ∧ (∀ o, (w1.alloc o).cell? ⟨w.heap.size, 4, none⟩ = _)); obtain ⟨y0, y1, y2, y3, y4⟩ := (⟨fun o => (open5 (hzz o)).1, fun o => (open5 (hzz o)).2.1, fun o => (open5 (hzz o)).2.2.1, fun o => (open5 (hzz o)).2.2.2.1, fun o => (open5 (hzz o)).2.2.2.2⟩ : (∀ o, (w1.alloc o).frozen? ⟨w.heap.size, 0, none⟩ = _) ∧ (∀ o, (w1.alloc o).frozen? ⟨w.heap.size, 1, none⟩ = _) ∧ (∀ o, (w1.alloc o).frozen? ⟨w.heap.size, 2, none⟩ = _) ∧ (∀ o, (w1.alloc o).frozen? ⟨w.heap.size, 3, none⟩ = _) ∧ (∀ o, (w1.alloc o).frozen? ⟨w.heap.size, 4, none⟩ = _)); have HZ := Lib.hid hzz; clear hb1 hz hzz hlt))
    have HF := Lib.hid (set5 (HZ.out (.cells #[.int .u8 y, .bool false, .bool false, .int .i64 0, .int .i64 0] 119)) (.int .u8 y) (.bool false) (.bool false) (.int .i64 0) (.int .i64 0))
    have HG := Lib.hid ((HB1.out.alloc HB1.out.size (.cells #[.int .u8 y, .bool false, .bool false, .int .i64 0, .int .i64 0] 119)).trans (set5_below (Nat.le_refl w.heap.size) (.int .u8 y) (.bool false) (.bool false) (.int .i64 0) (.int .i64 0)))
    clear x0 x1 x2 x3 x4 y0 y1 y2 y3 y4
    generalize (((((w1.alloc (.cells #[.int .u8 y, .bool false, .bool false, .int .i64 0, .int .i64 0] 119)).setCell ⟨w.heap.size, 0, none⟩ (.int .u8 y)).setCell ⟨w.heap.size, 1, none⟩ (.bool false)).setCell ⟨w.heap.size, 2, none⟩ (.bool false)).setCell ⟨w.heap.size, 3, none⟩ (.int .i64 0)).setCell ⟨w.heap.size, 4, none⟩ (.int .i64 0) = X at HF HG ⊢
    obtain ⟨c0, c1, c2, c3, c4⟩ := laid5 HF.out
    exact bodyPost_ret (v := .agg #[.int .u8 y, .bool false, .bool false, .int .i64 0, .int .i64 0]) (by simp [results, Tryz.results62, go_sem, c0, c1, c2, c3, c4]; try rfl) rfl ⟨rfl, HG.out⟩
end Go.Proofs.YtgdbeiadlgkedaaGreatDoor
set_option linter.unusedVariables false
set_option linter.unusedSimpArgs false
namespace Go.Proofs.YtgdbeiadlgkedaaGreatDoor
open Go.RowKit
abbrev iwc : ByteArray := ⟨#[73, 87, 67]⟩
abbrev gwc : ByteArray := ⟨#[71, 87, 67]⟩
theorem wcoder_1 (w : World) : Calls Tryz.prog 39 #[.int .i64 1] w fun e w' => e = .returned (.pointer (some ⟨w.heap.size, 0, none⟩)) ∧ w' = w.alloc (.cells #[.string iwc, .string ⟨#[]⟩] 182) := by
  go_enter Tryz.func39, Tryz.ntmps39
  go_wp2
  go_ret
  exact ⟨rfl, rfl⟩
theorem wcoder_0 (w : World) : Calls Tryz.prog 39 #[.int .i64 0] w fun e w' => e = .returned (.pointer (some ⟨w.heap.size, 0, none⟩)) ∧ w' = w.alloc (.cells #[.string gwc, .string ⟨#[]⟩] 182) := by
  go_enter Tryz.func39, Tryz.ntmps39
  go_wp2
  go_ret
  exact ⟨rfl, rfl⟩
theorem wenc_1 (h : Nat) (w : World) (hb : w.heap[h]? = some (.cells #[.string iwc, .string ⟨#[]⟩] 182 (0, 0))) : Calls Tryz.prog 38 #[.pointer (some ⟨h, 0, none⟩)] w fun e w' => e = .returned (.iface 189 (.pointer (some ⟨w.heap.size, 0, none⟩))) ∧ w' = w.alloc (.cells #[] 190) := by
  have c0 : w.cell? ⟨h, 0, none⟩ = some (.string iwc) := (blk_cell hb 0).trans rfl
  have c1 : w.cell? ⟨h, 1, none⟩ = some (.string ⟨#[]⟩) := (blk_cell hb 1).trans rfl
  clear hb
  go_enter Tryz.func38, Tryz.ntmps38
  go_wp2
  go_ret
  exact ⟨rfl, rfl⟩
theorem wenc_0 (h : Nat) (w : World) (hb : w.heap[h]? = some (.cells #[.string gwc, .string ⟨#[]⟩] 182 (0, 0))) : Calls Tryz.prog 38 #[.pointer (some ⟨h, 0, none⟩)] w fun e w' => e = .returned (.iface 186 (.pointer (some ⟨w.heap.size, 0, none⟩))) ∧ w' = w.alloc (.cells #[] 188) := by
  have c0 : w.cell? ⟨h, 0, none⟩ = some (.string gwc) := (blk_cell hb 0).trans rfl
  have c1 : w.cell? ⟨h, 1, none⟩ = some (.string ⟨#[]⟩) := (blk_cell hb 1).trans rfl
  clear hb
  go_enter Tryz.func38, Tryz.ntmps38
  go_wp2
  go_ret
  exact ⟨rfl, rfl⟩
theorem wdec_1 (h : Nat) (w : World) (hb : w.heap[h]? = some (.cells #[.string iwc, .string ⟨#[]⟩] 182 (0, 0))) : Calls Tryz.prog 43 #[.pointer (some ⟨h, 0, none⟩)] w fun e w' => e = .returned (.iface 199 (.pointer (some ⟨w.heap.size, 0, none⟩))) ∧ w' = w.alloc (.cells #[] 200) := by
  have c0 : w.cell? ⟨h, 0, none⟩ = some (.string iwc) := (blk_cell hb 0).trans rfl
  have c1 : w.cell? ⟨h, 1, none⟩ = some (.string ⟨#[]⟩) := (blk_cell hb 1).trans rfl
  have hl := blk_lt hb
  clear hb
  go_enter Tryz.func43, Tryz.ntmps43
  go_wp2
  go_ret
  exact ⟨rfl, rfl⟩
theorem wdec_0 (h : Nat) (w : World) (hb : w.heap[h]? = some (.cells #[.string gwc, .string ⟨#[]⟩] 182 (0, 0))) : Calls Tryz.prog 43 #[.pointer (some ⟨h, 0, none⟩)] w fun e w' => e = .returned (.iface 197 (.pointer (some ⟨w.heap.size, 0, none⟩))) ∧ w' = w.alloc (.cells #[] 198) := by
  have c0 : w.cell? ⟨h, 0, none⟩ = some (.string gwc) := (blk_cell hb 0).trans rfl
  have c1 : w.cell? ⟨h, 1, none⟩ = some (.string ⟨#[]⟩) := (blk_cell hb 1).trans rfl
  have hl := blk_lt hb
  clear hb
  go_enter Tryz.func43, Tryz.ntmps43
  go_wp2
  go_ret
  exact ⟨rfl, rfl⟩
abbrev winI (s e : Int) : Value := .iface 194 (.agg #[.int .i64 s, .int .i64 e])
set_option maxHeartbeats 2000000 in
set_option maxRecDepth 100000 in
theorem encU64_k (B b v : Nat) (l : List UInt8) (w : World) (h : Bf B b l w) (hv : v < 18446744073709551616) (hlim : l.length + 8 ≤ 140737488355328) :
    Calls Tryz.prog 75 #[.int .u64 v, bfI b] w fun e w' => e = .returned .nilIface ∧ Bf B b (l ++ Lib.beBytes 8 v) w' ∧ Below B w w' ∧ Lib.OthersKept 5 (some b) w w' := by
  have H := Lib.hid h
  have HV := Lib.hid hv
  have HL := Lib.hid hlim
  clear h hv hlim
  go_enter Tryz.func75, Tryz.ntmps75
  go_wp2
  go_region_with (go_at_call 102; refine (put64_any w.heap.size v _ ?hd HV.out).mono ?_; (case hd => exact ⟨_, _, heap_alloc_new w _, rfl⟩); rintro e_ w1 ⟨rfl, h1, h2⟩; have H1 := Lib.hid h1; have HB := Lib.hid (h2.below (((Below.refl _ w).alloc (Nat.le_refl _) _).drew) (Nat.le_refl _)); clear h1 h2)
  go_wp2_with (go_at_call 100; refine (wrU_any B b l (Lib.beBytes 8 v) ⟨w.heap.size, 0, none⟩ 8 8 w1 (H.out.old HB.out) (Lib.beBytes_length _ _) (by have := H.out.lt; show w.heap.size ≠ b; omega) H1.out HL.out).mono ?_; rintro e_ w2 ⟨rfl, h3, h4, h5⟩; have H2 := Lib.hid (And.intro h3 (And.intro (Below.lower HB.out H.out.size h4) (fun k o hk hkb ho => h5 k o ((HB.out.block k (blk_lt hk)).trans hk) hkb ho : Lib.OthersKept 5 (some b) w w2))); clear h3 h4 h5)
  go_ret
  exact ⟨rfl, H2.out⟩
set_option maxHeartbeats 2000000 in
set_option maxRecDepth 100000 in
theorem encU32_k (B b v : Nat) (l : List UInt8) (w : World) (h : Bf B b l w) (hv : v < 4294967296) (hlim : l.length + 4 ≤ 140737488355328) :
    Calls Tryz.prog 74 #[.int .u32 v, bfI b] w fun e w' => e = .returned .nilIface ∧ Bf B b (l ++ Lib.beBytes 4 v) w' ∧ Below B w w' ∧ Lib.OthersKept 5 (some b) w w' := by
  have H := Lib.hid h
  have HV := Lib.hid hv
  have HL := Lib.hid hlim
  clear h hv hlim
  go_enter Tryz.func74, Tryz.ntmps74
  go_wp2
  go_region_with (go_at_call 104; refine (put32_any w.heap.size v _ ?hd HV.out).mono ?_; (case hd => exact ⟨_, _, heap_alloc_new w _, rfl⟩); rintro e_ w1 ⟨rfl, h1, h2⟩; have H1 := Lib.hid h1; have HB := Lib.hid (h2.below (((Below.refl _ w).alloc (Nat.le_refl _) _).drew) (Nat.le_refl _)); clear h1 h2)
  go_wp2_with (go_at_call 100; refine (wrU_any B b l (Lib.beBytes 4 v) ⟨w.heap.size, 0, none⟩ 4 4 w1 (H.out.old HB.out) (Lib.beBytes_length _ _) (by have := H.out.lt; show w.heap.size ≠ b; omega) H1.out HL.out).mono ?_; rintro e_ w2 ⟨rfl, h3, h4, h5⟩; have H2 := Lib.hid (And.intro h3 (And.intro (Below.lower HB.out H.out.size h4) (fun k o hk hkb ho => h5 k o ((HB.out.block k (blk_lt hk)).trans hk) hkb ho : Lib.OthersKept 5 (some b) w w2))); clear h3 h4 h5)
  go_ret
  exact ⟨rfl, H2.out⟩
theorem encI32_k (B b : Nat) (t : Int) (l : List UInt8) (w : World) (h : Bf B b l w) (hlim : l.length + 4 ≤ 140737488355328) :
    Calls Tryz.prog 69 #[.int .i32 t, bfI b] w fun e w' => e = .returned .nilIface ∧ Bf B b (l ++ Lib.beBytes 4 (t % 4294967296).toNat) w' ∧ Below B w w' ∧ Lib.OthersKept 5 (some b) w w' := by
  have hC := encU32_k B b (t % 4294967296).toNat l w h (by omega) hlim
  have e : ((t % 4294967296).toNat : Int) = IntKind.u32.wrap t := by rw [IntKind.wrap_u32]; omega
  rw [e] at hC
  clear h hlim e
  go_enter Tryz.func69, Tryz.ntmps69
  go_wp2_with (go_at_call 74; refine hC.mono ?_; rintro e_ w2 ⟨rfl, h3⟩; have H2 := Lib.hid h3; clear h3)
  go_ret
  exact ⟨rfl, H2.out⟩
theorem encTime_k (B b : Nat) (t : Int) (l : List UInt8) (w : World) (ht0 : -9223372036854775808 ≤ t) (ht1 : t ≤ 9223372036854775807) (h : Bf B b l w) (hlim : l.length + 8 ≤ 140737488355328) :
    Calls Tryz.prog 68 #[.int .i64 t, bfI b] w fun e w' => e = .returned .nilIface ∧ Bf B b (l ++ Lib.beBytes 8 (t + 9223372036854775808).toNat) w' ∧ Below B w w' ∧ Lib.OthersKept 5 (some b) w w' := by
  have hC := encU64_k B b (t + 9223372036854775808).toNat l w h (by omega) hlim
  obtain ⟨y, hy⟩ : ∃ y, y = wrap64 (t + 9223372036854775808) := ⟨_, rfl⟩
  have e : ((t + 9223372036854775808).toNat : Int) = IntKind.u64.wrap y := by rw [hy, IntKind.wrap_u64]; unfold wrap64; omega
  rw [e] at hC
  have hy2 := hy.symm
  clear h hlim e ht0 ht1 hy
  go_enter Tryz.func68, Tryz.ntmps68
  go_wp2_with (first | (go_at_call 103; refine (millis_any _ _).mono ?_; rintro e_ w1 ⟨rfl, rfl⟩) | (go_at_call 75; refine hC.mono ?_; rintro e_ w2 ⟨rfl, h3⟩; have H2 := Lib.hid h3; clear h3))
  go_ret
  exact ⟨rfl, H2.out⟩
theorem taF (s e : Int) : ∀ W : World, (Instr.typeAssert (winI s e) 88 194 false).run Tryz.prog W = .ok (.agg #[.int .i64 s, .int .i64 e]) W := fun _ => by kernel_rfl
theorem taT (s e : Int) : ∀ W : World, (Instr.typeAssert (winI s e) 88 194 true).run Tryz.prog W = .ok (.tuple #[.agg #[.int .i64 s, .int .i64 e], .bool true]) W := fun _ => by kernel_rfl
theorem taG : ∀ W : World, (Instr.typeAssert (.iface 192 (.agg #[])) 88 194 true).run Tryz.prog W = .ok (.tuple #[.agg #[.int .i64 0, .int .i64 0], .bool false]) W := fun _ => by kernel_rfl
def wbytes (s e : Int) : List UInt8 := Lib.beBytes 8 (e + 9223372036854775808).toNat ++ Lib.uvarint (u64of (e - s))
theorem wbytes_len (s e : Int) : (wbytes s e).length ≤ 18 := by
  unfold wbytes; rw [List.length_append, Lib.beBytes_length]; have := Lib.uvarint_length64 (u64of_lt (e - s)); omega
theorem blk_alloc' {w : World} {g : Nat} {o o' : Obj} (h : w.heap[g]? = some o) : (w.alloc o').heap[g]? = some o := (Below.heap_alloc w o' g (blk_lt h)).trans h
set_option maxHeartbeats 4000000 in
set_option maxRecDepth 100000 in
theorem encSingle_1 (B b : Nat) (a : Option Addr) (s e : Int) (l : List UInt8) (w : World) (hs : -9223372036854775808 ≤ s ∧ s ≤ 9223372036854775807) (he : -9223372036854775808 ≤ e ∧ e ≤ 9223372036854775807) (h : Bf B b l w) (hB : B ≤ w.heap.size) (hlim : l.length + 18 ≤ 140737488355328) :
    Calls Tryz.prog 149 #[.pointer a, winI s e, bfI b] w fun x w' => x = .returned .nilIface ∧ Bf B b (l ++ wbytes s e) w' ∧ Below B w w' ∧ Lib.OthersKept 5 (some b) w w' := by
  have hb1 : Bf B b l (w.alloc (.cells #[.int .i64 s, .int .i64 e] 194)) := h.old ((Below.refl w.heap.size w).alloc (Nat.le_refl _) _)
  have HT := Lib.hid (encTime_k B b e l _ he.1 he.2 hb1 (by omega))
  have HV := Lib.hid (fun (w1 : World) (h1 : Bf B b (l ++ Lib.beBytes 8 (e + 9223372036854775808).toNat) w1) => encVar_any B b (u64of (e - s)) _ w1 h1 (u64of_lt _) (by rw [List.length_append, Lib.beBytes_length]; omega))
  have q1 : IntKind.u64.wrap (IntKind.i64.wrap (e - s)) = (u64of (e - s) : Int) := by rw [IntKind.wrap_u64, IntWalk.i64_left]; unfold wrap64 u64of; omega
  have hne : some w.heap.size ≠ some b := by have := h.lt; intro e; cases e; omega
  have HX := Lib.hid (heap_alloc_new w (.cells #[.int .i64 s, .int .i64 e] 194))
  have HBB := Lib.hid (And.intro hB hne)
  obtain ⟨x0, hx0⟩ : ∃ x, Hid (IntKind.i64.wrap (e - s) = x) := ⟨_, Lib.hid rfl⟩
  have q0 : IntKind.i64.wrap (e - s) = x0 := hx0.out
  have q3 : wrap64 (e - s) = x0 := (IntWalk.i64_left _).symm.trans q0
  rw [q0] at q1
  obtain ⟨U, hU⟩ : ∃ U, U = u64of (e - s) := ⟨_, rfl⟩
  rw [← hU] at q1 HV
  have HU := Lib.hid hU
  clear hs he h hB hlim hb1 hne hU
  have ta := taF s e
  go_enter Tryz.func149, Tryz.ntmps149
  go_wp2_with (go_at_call 68; go_loud (refine HT.out.mono ?_; rintro e_ w1 ⟨rfl, h1, h2, h3⟩; have HW := Lib.hid h1; have HX1 := Lib.hid (h3 w.heap.size _ HX.out HBB.out.2 (by intro c fz hc; cases hc)); have HB1 := Lib.hid (And.intro h2 h3); clear h1 h2 h3))
  have x1 : w1.cell? ⟨w.heap.size, 0, none⟩ = some (.int .i64 s) := (blk_cell HX1.out 0).trans rfl
  have x2 : w1.cell? ⟨w.heap.size, 1, none⟩ = some (.int .i64 e) := (blk_cell HX1.out 1).trans rfl
  go_quiet ((go_at_call 103; exact Calls.quiet_of_same ((millis_any _ _).mono fun _ _ ⟨a, b⟩ => ⟨a, b.symm⟩)))
  go_wp2_with (go_at_call 77; go_loud (refine (HV.out (w1.drewN nq) (HW.out.old (below_drewN (Below.refl _ _) nq))).mono ?_; rintro e_ w2 ⟨rfl, h1, h2, h3⟩; have HW2 := Lib.hid h1; have HB2 := Lib.hid (And.intro h2 h3); clear h1 h2 h3))
  go_ret
  have ht := HB1.out
  refine ⟨rfl, by have := HW2.out; rw [HU.out, List.append_assoc] at this; exact this, ?_, ?_⟩
  · exact (below_drewN ((((Below.refl w.heap.size w).alloc (Nat.le_refl _) _).mono HBB.out.1).trans ht.1) nq).trans HB2.out.1
  · intro k o hk hkb ho
    exact HB2.out.2 k o (ht.2 k o (blk_alloc' hk) hkb ho) hkb ho
end Go.Proofs.YtgdbeiadlgkedaaGreatDoor
