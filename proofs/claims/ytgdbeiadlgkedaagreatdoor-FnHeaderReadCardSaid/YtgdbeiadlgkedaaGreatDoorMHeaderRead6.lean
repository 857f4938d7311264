/- Contracts and plain laws, several texts in one. -/
import Derived.Test.YtgdbeiadlgkedaaGreatDoorMHeaderRead5
import Derived.LaidEql
import Derived.Lib.ConvBytes
import Derived.Lib.SmallJoins
namespace Go.Proofs.YtgdbeiadlgkedaaGreatDoor
open Go.RowKit
open Go.Joins (below_bytesWorld)
set_option linter.unusedVariables false
set_option linter.unusedSimpArgs false
theorem Rd.keptRG {r g : Nat} {l : List UInt8} {i : Nat} {w w' : World} (h : Rd r g l i w) (hr : w'.heap[r]? = w.heap[r]?) (hg : w'.heap[g]? = w.heap[g]?) : Rd r g l i w' := by
  obtain ⟨c, pv, h1, h2, h3, h4, h5, h6, ⟨o, h7⟩, h8⟩ := h
  exact ⟨c, pv, hr.trans h1, h2, h3, h4, h5, h6, ⟨o, hg.trans h7⟩, fun j x hj => (World.cell?_of_block (a := ⟨g, j, none⟩) hg).trans (h8 j x hj)⟩
theorem Rd.set {r g : Nat} {l : List UInt8} {i : Nat} {w : World} (h : Rd r g l i w) (a : Addr) (v : Value) (hr : a.block ≠ r) (hg : a.block ≠ g) : Rd r g l i (w.setCell a v) :=
  h.keptRG (Below.heap_setCell _ _ _ _ (fun e => hr e.symm)) (Below.heap_setCell _ _ _ _ (fun e => hg e.symm))
theorem newRd_any (w0 : World) (b : Nat) (hb : w0.heap.size = b) (s : ByteArray) (hs : s.size ≤ 4294967296) :
    Calls Tryz.prog 42 #[.slice (some ⟨b, 0, none⟩) s.size (grownCap w0 s.size 0 5)] (Lib.bytesWorld w0 5 s) fun e w' => ∃ r, e = .returned (.pointer (some ⟨r, 0, none⟩)) ∧ Rd r b s.data.toList 0 w' ∧ Below w0.heap.size w0 w' ∧ b < r := by
  subst hb
  refine (newReader_any _ _ _ _).mono fun e w' ⟨he, hw⟩ => ⟨_, he, ?_, ?_, ?_⟩
  · subst hw
    have hsz : s.size = s.data.toList.length := by rw [Array.length_toList]; rfl
    have hn := Lib.bytesWorld_at_new w0 5 s
    have hlt : w0.heap.size < (Lib.bytesWorld w0 5 s).heap.size := by rw [Lib.bytesWorld_size]; omega
    have e0 := Below.heap_alloc (Lib.bytesWorld w0 5 s) (.cells #[.slice (some ⟨w0.heap.size, 0, none⟩) s.size (grownCap w0 s.size 0 5), .int .i64 0, .int .i64 (-1)] 196) w0.heap.size hlt
    refine ⟨grownCap w0 s.size 0 5, -1, ?_, by omega, by rw [← hsz]; exact grownCap_ge _ _ _ _, ?_, Nat.zero_le _, by rw [← hsz]; exact hs, ⟨_, e0.trans hn⟩, ?_⟩
    · rw [← hsz]; exact heap_alloc_new _ _
    · have := grownCap_le_maxLen w0 s.size 0 5 (by unfold maxLen; omega)
      unfold maxLen at this; omega
    · intro j x hj
      have hjl : j < s.size := by rw [hsz]; exact (List.getElem?_eq_some_iff.1 hj).1
      have := Lib.bytesWorld_cell w0 5 s j hjl
      rw [List.getD_eq_getElem?_getD, hj] at this
      exact (World.cell?_of_block (a := ⟨w0.heap.size, j, none⟩) e0).trans this
  · subst hw
    exact (below_bytesWorld _ w0 _ s (Nat.le_refl _)).trans ((Below.refl _ _).alloc (by rw [Lib.bytesWorld_size]; omega) _)
  · rw [Lib.bytesWorld_size]; omega
theorem conv_bytes : ∀ (W : World) (s : ByteArray), (convert 9 77 (.string s)).run Tryz.prog W = .ok (.slice (some ⟨W.heap.size, 0, none⟩) s.size (grownCap W s.size 0 5)) (Lib.bytesWorld W 5 s) := fun W s => Lib.run_convert_string_bytes (P := Tryz.prog) W _ _ _ s Tryz.underlying9 Tryz.underlying77 Tryz.underlying5
theorem setCells_self (b : Nat) (T : TypeId) (fr : Nat × Nat) (cs : Array Value) : ∀ (vs : List Value) (o : Nat) (w : World), w.heap[b]? = some (.cells cs T fr) → (∀ j v, vs[j]? = some v → cs[o + j]? = some v) → (w.setCells b o vs).heap[b]? = some (.cells cs T fr)
  | [], _, _, h, _ => h
  | v :: r, o, w, h, hv => by
    have e : cs.setIfInBounds o v = cs := by
      apply Array.ext_getElem?
      intro i
      rw [Array.getElem?_setIfInBounds]
      split
      · rename_i hi
        subst hi
        split
        · have := hv 0 v rfl; rw [Nat.add_zero] at this; exact this.symm
        · rw [Array.getElem?_eq_none (by omega)]
      · rfl
    have h1 := Lib.heap_setCell_same (i := o) h v
    rw [e] at h1
    exact setCells_self b T fr cs r (o + 1) _ h1 (fun j u hj => by rw [show o + 1 + j = o + (j + 1) by omega]; exact hv (j + 1) u hj)
theorem dv_below {w w1 w2 W : World} {r q : Nat} {a : Addr} {v v2 : Value} (h1 : Below w.heap.size w w1) (hg : (w1.setCell ⟨w.heap.size, 0, none⟩ v).grownBy w2 (some r)) (hW : W = w2.setCell a v2) (hr : w.heap.size ≤ r) (ha : w.heap.size ≤ a.block := by exact Nat.le_refl _) : Below w.heap.size w (W.drewN q) := by
  have h2 : Below w.heap.size w (w1.setCell ⟨w.heap.size, 0, none⟩ v) := h1.setCell (p := ⟨w.heap.size, 0, none⟩) (Nat.le_refl _) v
  have h3 : Below w.heap.size w w2 := h2.trans (grown_below hg h2.size hr)
  subst hW
  have h4 := h3.setCell (p := a) ha v2
  exact ⟨h4.os, h4.tape, h4.output, h4.size, h4.block⟩
theorem leNat_lt : ∀ l : List UInt8, Lib.leNat l < 256 ^ l.length
  | [] => by simp [Lib.leNat]
  | c :: r => by
    have := leNat_lt r
    have hc := c.toNat_lt
    simp only [Lib.leNat, List.length_cons, Nat.pow_succ]
    omega
theorem beNat_lt (l : List UInt8) : Lib.beNat l < 256 ^ l.length := by
  rw [Lib.beNat_eq]
  have := leNat_lt l.reverse
  rwa [List.length_reverse] at this
theorem beNat_lt8 (l : List UInt8) (h : l.length ≤ 8) : Lib.beNat l < 18446744073709551616 := by
  have h1 := beNat_lt l
  have h2 : 256 ^ l.length ≤ 256 ^ 8 := Nat.pow_le_pow_right (by decide) h
  have e : 256 ^ 8 = 18446744073709551616 := by decide
  omega
abbrev zv (k : Int) : Array Value := #[.int .i64 k, .bool false, .int .i64 0, .int .u64 0, .int .u64 0, .string ⟨#[]⟩, .int .i64 0, .bool false, .bool false, .int .i64 0, .int .i64 0]
theorem dv_start {w w1 : World} {O : Obj} {B r b : Nat} {pe pl : Addr} (hB : B ≤ w.heap.size) (he : Env B pe pl w) (hw : Below (w.alloc O).heap.size (w.alloc O) w1) (hr : w.heap.size + 1 < r) :
    w1.heap[w.heap.size]? = some O ∧ Env B pe pl w1 ∧ Below w.heap.size w w1 ∧ B ≤ r :=
  have h0 : Below w.heap.size w w1 := ((Below.refl _ w).alloc (Nat.le_refl _) O).trans (hw.mono (by simp))
  ⟨(hw.block _ (by simp)).trans (heap_alloc_new w O), he.below (h0.mono hB), h0, by omega⟩
theorem same_set {w : World} {b i : Nat} {cs : Array Value} {T : TypeId} {fr : Nat × Nat} {v : Value} (h : w.heap[b]? = some (.cells cs T fr)) (hv : cs[i]? = some v) (k : Nat) : (w.setCell ⟨b, i, none⟩ v).heap[k]? = w.heap[k]? := by
  by_cases hk : k = b
  · subst hk
    have := setCells_self k T fr cs [v] i w h (fun j u hj => by
      cases j with
      | zero => rw [Nat.add_zero, hv]; exact hj
      | succ j => simp at hj)
    exact this.trans h.symm
  · exact Below.heap_setCell _ _ _ _ (fun e => hk e)
end Go.Proofs.YtgdbeiadlgkedaaGreatDoor
namespace Go.Proofs.YtgdbeiadlgkedaaGreatDoor
open Go.RowKit
set_option linter.unusedVariables false
set_option linter.unusedSimpArgs false
theorem and1 (b : Nat) (h : b < 256) : bits .and .u8 (b : Int) 1 = ((b % 2 : Nat) : Int) := by
  have : ∀ b : Fin 256, bits .and .u8 ((b : Nat) : Int) 1 = (((b : Nat) % 2 : Nat) : Int) := by decide +kernel
  exact this ⟨b, h⟩
theorem and2 (b : Nat) (h : b < 256) : bits .and .u8 (b : Int) 2 = ((b / 2 % 2 * 2 : Nat) : Int) := by
  have : ∀ b : Fin 256, bits .and .u8 ((b : Nat) : Int) 2 = (((b : Nat) / 2 % 2 * 2 : Nat) : Int) := by decide +kernel
  exact this ⟨b, h⟩
theorem and3 (b : Nat) (h : b < 256) : bits .and .u8 (b : Int) 3 = ((b % 4 : Nat) : Int) := by
  have : ∀ b : Fin 256, bits .and .u8 ((b : Nat) : Int) 3 = (((b : Nat) % 4 : Nat) : Int) := by decide +kernel
  exact this ⟨b, h⟩
set_option maxHeartbeats 4000000 in
set_option maxRecDepth 100000 in
theorem noPane_any (w : World) :
    Calls Tryz.prog 98 #[] w fun e w' => e = .returned (.agg #[.int .u8 3, .bool true, .bool true, .int .i64 0, .int .i64 0]) ∧ Below w.heap.size w w' := by
  go_enter Tryz.func98, Tryz.ntmps98
  go_wp2
  obtain ⟨X, hX⟩ : ∃ X, X = w.alloc (.cells #[.int .u8 3, .bool true, .bool true, .int .i64 0, .int .i64 0] 119) := ⟨_, rfl⟩
  have hb : X.heap[w.heap.size]? = some (.cells #[.int .u8 3, .bool true, .bool true, .int .i64 0, .int .i64 0] 119 (0, 0)) := by rw [hX]; exact heap_alloc_new w _
  have HX := Lib.hid (show Below w.heap.size w X by rw [hX]; exact (Below.refl _ w).alloc (Nat.le_refl _) _)
  rw [← hX]
  clear hX
  have c0 : X.cell? ⟨w.heap.size, 0, none⟩ = some (.int .u8 3) := (blk_cell hb 0).trans rfl
  have c1 : X.cell? ⟨w.heap.size, 1, none⟩ = some (.bool true) := (blk_cell hb 1).trans rfl
  have c2 : X.cell? ⟨w.heap.size, 2, none⟩ = some (.bool true) := (blk_cell hb 2).trans rfl
  have c3 : X.cell? ⟨w.heap.size, 3, none⟩ = some (.int .i64 0) := (blk_cell hb 3).trans rfl
  have c4 : X.cell? ⟨w.heap.size, 4, none⟩ = some (.int .i64 0) := (blk_cell hb 4).trans rfl
  clear hb
  exact bodyPost_ret (v := .agg #[.int .u8 3, .bool true, .bool true, .int .i64 0, .int .i64 0]) (by simp [results, Tryz.results98, go_sem, c0, c1, c2, c3, c4]; try rfl) rfl ⟨rfl, HX.out⟩
set_option maxHeartbeats 4000000 in
set_option maxRecDepth 100000 in
theorem backPane_any (t : Nat) (f l : Bool) (i n : Int) (ht : t < 256) (w : World) :
    Calls Tryz.prog 55 #[.agg #[.int .u8 t, .bool f, .bool l, .int .i64 i, .int .i64 n]] w fun e w' => e = .returned (.agg #[.int .i64 t, .bool f, .bool l, .int .i64 i, .int .i64 n]) ∧ Below w.heap.size w w' := by
  have q1 : IntKind.i64.wrap (t : Int) = (t : Int) := IntWalk.i64_in _ (by omega)
  have q2 : wrap64 (t : Int) = (t : Int) := IntWalk.wrap64_in _ (by omega)
  clear ht
  go_enter Tryz.func55, Tryz.ntmps55
  go_wp2
  obtain ⟨X, hX⟩ : ∃ X, X = (w.alloc (.cells #[.int .u8 t, .bool f, .bool l, .int .i64 i, .int .i64 n] 119)).alloc (.cells #[.int .i64 t, .bool f, .bool l, .int .i64 i, .int .i64 n] 42) := ⟨_, rfl⟩
  have hb : X.heap[w.heap.size + 1]? = some (.cells #[.int .i64 t, .bool f, .bool l, .int .i64 i, .int .i64 n] 42 (0, 0)) := by rw [hX]; have := heap_alloc_new (w.alloc (.cells #[.int .u8 t, .bool f, .bool l, .int .i64 i, .int .i64 n] 119)) (.cells #[.int .i64 t, .bool f, .bool l, .int .i64 i, .int .i64 n] 42); rwa [World.size_alloc] at this
  have HX := Lib.hid (show Below w.heap.size w X by rw [hX]; exact ((Below.refl _ w).alloc (Nat.le_refl _) _).alloc (by rw [World.size_alloc]; omega) _)
  rw [← hX]
  clear hX
  have c0 : X.cell? ⟨w.heap.size + 1, 0, none⟩ = some (.int .i64 t) := (blk_cell hb 0).trans rfl
  have c1 : X.cell? ⟨w.heap.size + 1, 1, none⟩ = some (.bool f) := (blk_cell hb 1).trans rfl
  have c2 : X.cell? ⟨w.heap.size + 1, 2, none⟩ = some (.bool l) := (blk_cell hb 2).trans rfl
  have c3 : X.cell? ⟨w.heap.size + 1, 3, none⟩ = some (.int .i64 i) := (blk_cell hb 3).trans rfl
  have c4 : X.cell? ⟨w.heap.size + 1, 4, none⟩ = some (.int .i64 n) := (blk_cell hb 4).trans rfl
  clear hb
  exact bodyPost_ret (v := .agg #[.int .i64 t, .bool f, .bool l, .int .i64 i, .int .i64 n]) (by simp [results, Tryz.results55, go_sem, c0, c1, c2, c3, c4]; try rfl) rfl ⟨rfl, HX.out⟩
theorem set5 {W : World} {b : Nat} {a0 a1 a2 a3 a4 : Value} {T : TypeId} {fr : Nat × Nat} (h : W.heap[b]? = some (.cells #[a0, a1, a2, a3, a4] T fr)) (v0 v1 v2 v3 v4 : Value) :
    (((((W.setCell ⟨b, 0, none⟩ v0).setCell ⟨b, 1, none⟩ v1).setCell ⟨b, 2, none⟩ v2).setCell ⟨b, 3, none⟩ v3).setCell ⟨b, 4, none⟩ v4).heap[b]? = some (.cells #[v0, v1, v2, v3, v4] T fr) := by
  have h0 : (W.setCell ⟨b, 0, none⟩ v0).heap[b]? = some (.cells #[v0, a1, a2, a3, a4] T fr) := (Lib.heap_setCell_same (i := 0) h v0).trans rfl
  have h1 : ((W.setCell ⟨b, 0, none⟩ v0).setCell ⟨b, 1, none⟩ v1).heap[b]? = some (.cells #[v0, v1, a2, a3, a4] T fr) := (Lib.heap_setCell_same (i := 1) h0 v1).trans rfl
  have h2 : (((W.setCell ⟨b, 0, none⟩ v0).setCell ⟨b, 1, none⟩ v1).setCell ⟨b, 2, none⟩ v2).heap[b]? = some (.cells #[v0, v1, v2, a3, a4] T fr) := (Lib.heap_setCell_same (i := 2) h1 v2).trans rfl
  have h3 : ((((W.setCell ⟨b, 0, none⟩ v0).setCell ⟨b, 1, none⟩ v1).setCell ⟨b, 2, none⟩ v2).setCell ⟨b, 3, none⟩ v3).heap[b]? = some (.cells #[v0, v1, v2, v3, a4] T fr) := (Lib.heap_setCell_same (i := 3) h2 v3).trans rfl
  exact (Lib.heap_setCell_same (i := 4) h3 v4).trans rfl
theorem set5_below {W : World} {b B : Nat} (hb : B ≤ b) (v0 v1 v2 v3 v4 : Value) :
    Below B W (((((W.setCell ⟨b, 0, none⟩ v0).setCell ⟨b, 1, none⟩ v1).setCell ⟨b, 2, none⟩ v2).setCell ⟨b, 3, none⟩ v3).setCell ⟨b, 4, none⟩ v4) :=
  (((((Below.refl B W).setCell (p := ⟨b, 0, none⟩) hb v0).setCell (p := ⟨b, 1, none⟩) hb v1).setCell (p := ⟨b, 2, none⟩) hb v2).setCell (p := ⟨b, 3, none⟩) hb v3).setCell (p := ⟨b, 4, none⟩) hb v4
theorem laid5 {X : World} {b : Nat} {v0 v1 v2 v3 v4 : Value} {T : TypeId} (h : X.heap[b]? = some (.cells #[v0, v1, v2, v3, v4] T (0, 0))) :
    X.cell? ⟨b, 0, none⟩ = some v0 ∧ X.cell? ⟨b, 1, none⟩ = some v1 ∧ X.cell? ⟨b, 2, none⟩ = some v2 ∧ X.cell? ⟨b, 3, none⟩ = some v3 ∧ X.cell? ⟨b, 4, none⟩ = some v4 :=
  ⟨(blk_cell h 0).trans rfl, (blk_cell h 1).trans rfl, (blk_cell h 2).trans rfl, (blk_cell h 3).trans rfl, (blk_cell h 4).trans rfl⟩
theorem open5 {X : World} {b : Nat} {v0 v1 v2 v3 v4 : Value} {T : TypeId} (h : X.heap[b]? = some (.cells #[v0, v1, v2, v3, v4] T (0, 0))) :
    X.frozen? ⟨b, 0, none⟩ = false ∧ X.frozen? ⟨b, 1, none⟩ = false ∧ X.frozen? ⟨b, 2, none⟩ = false ∧ X.frozen? ⟨b, 3, none⟩ = false ∧ X.frozen? ⟨b, 4, none⟩ = false :=
  ⟨blk_frozen h 0, blk_frozen h 1, blk_frozen h 2, blk_frozen h 3, blk_frozen h 4⟩
set_option maxHeartbeats 4000000 in
set_option maxRecDepth 100000 in
theorem newPane_any (b : Nat) (hb : b < 256) (w : World) :
    Calls Tryz.prog 62 #[.int .u8 b] w fun e w' => e = .returned (.agg #[.int .u8 (b / 4 % 4 : Nat), .bool (b % 2 = 1), .bool (b / 2 % 2 = 1), .int .i64 0, .int .i64 0]) ∧ Below w.heap.size w w' := by
  have a1 := and1 b hb
  have a2 := and2 b hb
  obtain ⟨q, hq⟩ : ∃ q, Hid (b / 4 = q) := ⟨_, Lib.hid rfl⟩
  have a0 : (b : Int) / 4 = (q : Int) := by have := hq.out; omega
  have a3 := and3 q (by have := hq.out; omega)
  obtain ⟨y, hy⟩ : ∃ y, Hid (q % 4 = y) := ⟨_, Lib.hid rfl⟩
  rw [hy.out] at a3
  rw [hq.out, hy.out]
  clear hb
  have e2 : ∀ x, x % 2 = 1 ∨ x % 2 = 0 := fun x => by omega
  rcases e2 b with h1 | h1 <;> rcases e2 (b / 2) with h2 | h2 <;> rw [h1] at a1 <;> rw [h2] at a2 <;> simp only [h1, h2, decide_true, show decide ((0 : Nat) = 1) = false from rfl]
  · go_enter Tryz.func62, Tryz.ntmps62
    go_wp2_with (go_at_call 98; go_loud (refine (noPane_any _).mono ?_; rintro e_ w1 ⟨rfl, hb1⟩; have hz := (hb1.block _ (by rw [World.size_alloc]; omega)).trans (heap_alloc_new w _); have HB1 := Lib.hid (((Below.refl _ w).alloc (Nat.le_refl _) _).trans (hb1.mono (by simp))); have hlt := blk_lt hz; have hzz : ∀ o, (w1.alloc o).heap[w.heap.size]? = _ := fun o => (((Below.refl w1.heap.size w1).alloc (Nat.le_refl _) o).block _ hlt).trans hz; obtain ⟨x0, x1, x2, x3, x4⟩ := (⟨fun o => (laid5 (hzz o)).1, fun o => (laid5 (hzz o)).2.1, fun o => (laid5 (hzz o)).2.2.1, fun o => (laid5 (hzz o)).2.2.2.1, fun o => (laid5 (hzz o)).2.2.2.2⟩ : (∀ o, (w1.alloc o).cell? ⟨w.heap.size, 0, none⟩ = _) ∧ (∀ o, (w1.alloc o).cell? ⟨w.heap.size, 1, none⟩ = _) ∧ (∀ o, (w1.alloc o).cell? ⟨w.heap.size, 2, none⟩ = _) ∧ (∀ o, (w1.alloc o).cell? ⟨w.heap.size, 3, none⟩ = _) ∧ (∀ o, (w1.alloc o).cell? ⟨w.heap.size, 4, none⟩ = _)); obtain ⟨y0, y1, y2, y3, y4⟩ := (⟨fun o => (open5 (hzz o)).1, fun o => (open5 (hzz o)).2.1, fun o => (open5 (hzz o)).2.2.1, fun o => (open5 (hzz o)).2.2.2.1, fun o => (open5 (hzz o)).2.2.2.2⟩ : (∀ o, (w1.alloc o).frozen? ⟨w.heap.size, 0, none⟩ = _) ∧ (∀ o, (w1.alloc o).frozen? ⟨w.heap.size, 1, none⟩ = _) ∧ (∀ o, (w1.alloc o).frozen? ⟨w.heap.size, 2, none⟩ = _) ∧ (∀ o, (w1.alloc o).frozen? ⟨w.heap.size, 3, none⟩ = _) ∧ (∀ o, (w1.alloc o).frozen? ⟨w.heap.size, 4, none⟩ = _)); have HZ := Lib.hid hzz; clear hb1 hz hzz hlt))
    have HF := Lib.hid (set5 (HZ.out (.cells #[.int .u8 y, .bool true, .bool true, .int .i64 0, .int .i64 0] 119)) (.int .u8 y) (.bool true) (.bool true) (.int .i64 0) (.int .i64 0))
    have HG := Lib.hid ((HB1.out.alloc HB1.out.size (.cells #[.int .u8 y, .bool true, .bool true, .int .i64 0, .int .i64 0] 119)).trans (set5_below (Nat.le_refl w.heap.size) (.int .u8 y) (.bool true) (.bool true) (.int .i64 0) (.int .i64 0)))
    clear x0 x1 x2 x3 x4 y0 y1 y2 y3 y4
    generalize (((((w1.alloc (.cells #[.int .u8 y, .bool true, .bool true, .int .i64 0, .int .i64 0] 119)).setCell ⟨w.heap.size, 0, none⟩ (.int .u8 y)).setCell ⟨w.heap.size, 1, none⟩ (.bool true)).setCell ⟨w.heap.size, 2, none⟩ (.bool true)).setCell ⟨w.heap.size, 3, none⟩ (.int .i64 0)).setCell ⟨w.heap.size, 4, none⟩ (.int .i64 0) = X at HF HG ⊢
    obtain ⟨c0, c1, c2, c3, c4⟩ := laid5 HF.out
    exact bodyPost_ret (v := .agg #[.int .u8 y, .bool true, .bool true, .int .i64 0, .int .i64 0]) (by simp [results, Tryz.results62, go_sem, c0, c1, c2, c3, c4]; try rfl) rfl ⟨rfl, HG.out⟩
  · go_enter Tryz.func62, Tryz.ntmps62
    go_wp2_with (go_at_call 98; go_loud (refine (noPane_any _).mono ?_; rintro e_ w1 ⟨rfl, hb1⟩; have hz := (hb1.block _ (by rw [World.size_alloc]; omega)).trans (heap_alloc_new w _); have HB1 := Lib.hid (((Below.refl _ w).alloc (Nat.le_refl _) _).trans (hb1.mono (by simp))); have hlt := blk_lt hz; have hzz : ∀ o, (w1.alloc o).heap[w.heap.size]? = _ := fun o => (((Below.refl w1.heap.size w1).alloc (Nat.le_refl _) o).block _ hlt).trans hz; obtain ⟨x0, x1, x2, x3, x4⟩ := (⟨fun o => (laid5 (hzz o)).1, fun o => (laid5 (hzz o)).2.1, fun o => (laid5 (hzz o)).2.2.1, fun o => (laid5 (hzz o)).2.2.2.1, fun o => (laid5 (hzz o)).2.2.2.2⟩ : (∀ o, (w1.alloc o).cell? ⟨w.heap.size, 0, none⟩ = _) ∧ (∀ o, (w1.alloc o).cell? ⟨w.heap.size, 1, none⟩ = _) ∧ (∀ o, (w1.alloc o).cell? ⟨w.heap.size, 2, none⟩ = _) ∧ (∀ o, (w1.alloc o).cell? ⟨w.heap.size, 3, none⟩ = _) ∧ (∀ o, (w1.alloc o).cell? ⟨w.heap.size, 4, none⟩ = _)); obtain ⟨y0, y1, y2, y3, y4⟩ := (⟨fun o => (open5 (hzz o)).1, fun o => (open5 (hzz o)).2.1, fun o => (open5 (hzz o)).2.2.1, fun o => (open5 (hzz o)).2.2.2.1, fun o => (open5 (hzz o)).2.2.2.2⟩ : (∀ o, (w1.alloc o).frozen? ⟨w.heap.size, 0, none⟩ = _) ∧ (∀ o, (w1.alloc o).frozen? ⟨w.heap.size, 1, none⟩ = _) ∧ (∀ o, (w1.alloc o).frozen? ⟨w.heap.size, 2, none⟩ = _) ∧ (∀ o, (w1.alloc o).frozen? ⟨w.heap.size, 3, none⟩ = _) ∧ (∀ o, (w1.alloc o).frozen? ⟨w.heap.size, 4, none⟩ = _)); have HZ := Lib.hid hzz; clear hb1 hz hzz hlt))
    have HF := Lib.hid (set5 (HZ.out (.cells #[.int .u8 y, .bool true, .bool false, .int .i64 0, .int .i64 0] 119)) (.int .u8 y) (.bool true) (.bool false) (.int .i64 0) (.int .i64 0))
    have HG := Lib.hid ((HB1.out.alloc HB1.out.size (.cells #[.int .u8 y, .bool true, .bool false, .int .i64 0, .int .i64 0] 119)).trans (set5_below (Nat.le_refl w.heap.size) (.int .u8 y) (.bool true) (.bool false) (.int .i64 0) (.int .i64 0)))
    clear x0 x1 x2 x3 x4 y0 y1 y2 y3 y4
    generalize (((((w1.alloc (.cells #[.int .u8 y, .bool true, .bool false, .int .i64 0, .int .i64 0] 119)).setCell ⟨w.heap.size, 0, none⟩ (.int .u8 y)).setCell ⟨w.heap.size, 1, none⟩ (.bool true)).setCell ⟨w.heap.size, 2, none⟩ (.bool false)).setCell ⟨w.heap.size, 3, none⟩ (.int .i64 0)).setCell ⟨w.heap.size, 4, none⟩ (.int .i64 0) = X at HF HG ⊢
    obtain ⟨c0, c1, c2, c3, c4⟩ := laid5 HF.out
    exact bodyPost_ret (v := .agg #[.int .u8 y, .bool true, .bool false, .int .i64 0, .int .i64 0]) (by simp [results, Tryz.results62, go_sem, c0, c1, c2, c3, c4]; try rfl) rfl ⟨rfl, HG.out⟩
  · go_enter Tryz.func62, Tryz.ntmps62
    go_wp2_with (go_at_call 98; go_loud (refine (noPane_any _).mono ?_; rintro e_ w1 ⟨rfl, hb1⟩; have hz := (hb1.block _ (by rw [World.size_alloc]; omega)).trans (heap_alloc_new w _); have HB1 := Lib.hid (((Below.refl _ w).alloc (Nat.le_refl _) _).trans (hb1.mono (by simp))); have hlt := blk_lt hz; have hzz : ∀ o, (w1.alloc o).heap[w.heap.size]? = _ := fun o => (((Below.refl w1.heap.size w1).alloc (Nat.le_refl _) o).block _ hlt).trans hz; obtain ⟨x0, x1, x2, x3, x4⟩ := (⟨fun o => (laid5 (hzz o)).1, fun o => (laid5 (hzz o)).2.1, fun o => (laid5 (hzz o)).2.2.1, fun o => (laid5 (hzz o)).2.2.2.1, fun o => (laid5 (hzz o)).2.2.2.2⟩ : (∀ o, (w1.alloc o).cell? ⟨w.heap.size, 0, none⟩ = _) ∧ (∀ o, (w1.alloc o).cell? ⟨w.heap.size, 1, none⟩ = _) ∧ (∀ o, (w1.alloc o).cell? ⟨w.heap.size, 2, none⟩ = _) ∧ (∀ o, (w1.alloc o).cell? ⟨w.heap.size, 3, none⟩ = _) ∧ (∀ o, (w1.alloc o).cell? ⟨w.heap.size, 4, none⟩ = _)); obtain ⟨y0, y1, y2, y3, y4⟩ := (⟨fun o => (open5 (hzz o)).1, fun o => (open5 (hzz o)).2.1, fun o => (open5 (hzz o)).2.2.1, fun o => (open5 (hzz o)).2.2.2.1, fun o => (open5 (hzz o)).2.2.2.2⟩ : (∀ o, (w1.alloc o).frozen? ⟨w.heap.size, 0, none⟩ = _) ∧ (∀ o, (w1.alloc o).frozen? ⟨w.heap.size, 1, none⟩ = _) ∧ (∀ o, (w1.alloc o).frozen? ⟨w.heap.size, 2, none⟩ = _) ∧ (∀ o, (w1.alloc o).frozen? ⟨w.heap.size, 3, none⟩ = _) ∧ (∀ o, (w1.alloc o).frozen? ⟨w.heap.size, 4, none⟩ = _)); have HZ := Lib.hid hzz; clear hb1 hz hzz hlt))
    have HF := Lib.hid (set5 (HZ.out (.cells #[.int .u8 y, .bool false, .bool true, .int .i64 0, .int .i64 0] 119)) (.int .u8 y) (.bool false) (.bool true) (.int .i64 0) (.int .i64 0))
    have HG := Lib.hid ((HB1.out.alloc HB1.out.size (.cells #[.int .u8 y, .bool false, .bool true, .int .i64 0, .int .i64 0] 119)).trans (set5_below (Nat.le_refl w.heap.size) (.int .u8 y) (.bool false) (.bool true) (.int .i64 0) (.int .i64 0)))
    clear x0 x1 x2 x3 x4 y0 y1 y2 y3 y4
    generalize (((((w1.alloc (.cells #[.int .u8 y, .bool false, .bool true, .int .i64 0, .int .i64 0] 119)).setCell ⟨w.heap.size, 0, none⟩ (.int .u8 y)).setCell ⟨w.heap.size, 1, none⟩ (.bool false)).setCell ⟨w.heap.size, 2, none⟩ (.bool true)).setCell ⟨w.heap.size, 3, none⟩ (.int .i64 0)).setCell ⟨w.heap.size, 4, none⟩ (.int .i64 0) = X at HF HG ⊢
    obtain ⟨c0, c1, c2, c3, c4⟩ := laid5 HF.out
    exact bodyPost_ret (v := .agg #[.int .u8 y, .bool false, .bool true, .int .i64 0, .int .i64 0]) (by simp [results, Tryz.results62, go_sem, c0, c1, c2, c3, c4]; try rfl) rfl ⟨rfl, HG.out⟩
  · go_enter Tryz.func62, Tryz.ntmps62
    go_wp2_with (go_at_call 98; go_loud (refine (noPane_any _).mono ?_; rintro e_ w1 ⟨rfl, hb1⟩; have hz := (hb1.block _ (by rw [World.size_alloc]; omega)).trans (heap_alloc_new w _); have HB1 := Lib.hid (((Below.refl _ w).alloc (Nat.le_refl _) _).trans (hb1.mono (by simp))); have hlt := blk_lt hz; have hzz : ∀ o, (w1.alloc o).heap[w.heap.size]? = _ := fun o => (((Below.refl w1.heap.size w1).alloc (Nat.le_refl _) o).block _ hlt).trans hz; obtain ⟨x0, x1, x2, x3, x4⟩ := (⟨fun o => (laid5 (hzz o)).1, fun o => (laid5 (hzz o)).2.1, fun o => (laid5 (hzz o)).2.2.1, fun o => (laid5 (hzz o)).2.2.2.1, fun o => (laid5 (hzz o)).2.2.2.2⟩ : (∀ o, (w1.alloc o).cell? ⟨w.heap.size, 0, none⟩ = _) ∧ (∀ o, (w1.alloc o).cell? ⟨w.heap.size, 1, none⟩ = _) ∧ (∀ o, (w1.alloc o).cell? ⟨w.heap.size, 2, none⟩ = _) ∧ (∀ o, (w1.alloc o).cell? ⟨w.heap.size, 3, none⟩ = _) ∧ (∀ o, (w1.alloc o).cell? ⟨w.heap.size, 4, none⟩ = _)); obtain ⟨y0, y1, y2, y3, y4⟩ := (⟨fun o => (open5 (hzz o)).1, fun o => (open5 (hzz o)).2.1, fun o => (open5 (hzz o)).2.2.1, fun o => (open5 (hzz o)).2.2.2.1, fun o => (open5 (hzz o)).2.2.2.2⟩ : (∀ o, (w1.alloc o).frozen? ⟨w.heap.size, 0, none⟩ = _) ∧ (∀ o, (w1.alloc o).frozen? ⟨w.heap.size, 1, none⟩ = _) ∧ (∀ o, (w1.alloc o).frozen? ⟨w.heap.size, 2, none⟩ = _) ∧ (∀ o, (w1.alloc o).frozen? ⟨w.heap.size, 3, none⟩ = _) ∧ (∀ o, (w1.alloc o).frozen? ⟨w.heap.size, 4, none⟩ = _)); have HZ := Lib.hid hzz; clear hb1 hz hzz hlt))
    have HF := Lib.hid (set5 (HZ.out (.cells #[.int .u8 y, .bool false, .bool false, .int .i64 0, .int .i64 0] 119)) (.int .u8 y) (.bool false) (.bool false) (.int .i64 0) (.int .i64 0))
    have HG := Lib.hid ((HB1.out.alloc HB1.out.size (.cells #[.int .u8 y, .bool false, .bool false, .int .i64 0, .int .i64 0] 119)).trans (set5_below (Nat.le_refl w.heap.size) (.int .u8 y) (.bool false) (.bool false) (.int .i64 0) (.int .i64 0)))
    clear x0 x1 x2 x3 x4 y0 y1 y2 y3 y4
    generalize (((((w1.alloc (.cells #[.int .u8 y, .bool false, .bool false, .int .i64 0, .int .i64 0] 119)).setCell ⟨w.heap.size, 0, none⟩ (.int .u8 y)).setCell ⟨w.heap.size, 1, none⟩ (.bool false)).setCell ⟨w.heap.size, 2, none⟩ (.bool false)).setCell ⟨w.heap.size, 3, none⟩ (.int .i64 0)).setCell ⟨w.heap.size, 4, none⟩ (.int .i64 0) = X at HF HG ⊢
    obtain ⟨c0, c1, c2, c3, c4⟩ := laid5 HF.out
    exact bodyPost_ret (v := .agg #[.int .u8 y, .bool false, .bool false, .int .i64 0, .int .i64 0]) (by simp [results, Tryz.results62, go_sem, c0, c1, c2, c3, c4]; try rfl) rfl ⟨rfl, HG.out⟩
end Go.Proofs.YtgdbeiadlgkedaaGreatDoor
set_option linter.unusedVariables false
set_option linter.unusedSimpArgs false
namespace Go.Proofs.YtgdbeiadlgkedaaGreatDoor
open Go.RowKit
abbrev iwc : ByteArray := ⟨#[73, 87, 67]⟩
abbrev gwc : ByteArray := ⟨#[71, 87, 67]⟩
theorem wcoder_1 (w : World) : Calls Tryz.prog 39 #[.int .i64 1] w fun e w' => e = .returned (.pointer (some ⟨w.heap.size, 0, none⟩)) ∧ w' = w.alloc (.cells #[.string iwc, .string ⟨#[]⟩] 182) := by
  go_enter Tryz.func39, Tryz.ntmps39
  go_wp2
  go_ret
  exact ⟨rfl, rfl⟩
theorem wcoder_0 (w : World) : Calls Tryz.prog 39 #[.int .i64 0] w fun e w' => e = .returned (.pointer (some ⟨w.heap.size, 0, none⟩)) ∧ w' = w.alloc (.cells #[.string gwc, .string ⟨#[]⟩] 182) := by
  go_enter Tryz.func39, Tryz.ntmps39
  go_wp2
  go_ret
  exact ⟨rfl, rfl⟩
theorem wdec_1 (h : Nat) (w : World) (hb : w.heap[h]? = some (.cells #[.string iwc, .string ⟨#[]⟩] 182 (0, 0))) : Calls Tryz.prog 43 #[.pointer (some ⟨h, 0, none⟩)] w fun e w' => e = .returned (.iface 199 (.pointer (some ⟨w.heap.size, 0, none⟩))) ∧ w' = w.alloc (.cells #[] 200) := by
  have c0 : w.cell? ⟨h, 0, none⟩ = some (.string iwc) := (blk_cell hb 0).trans rfl
  have c1 : w.cell? ⟨h, 1, none⟩ = some (.string ⟨#[]⟩) := (blk_cell hb 1).trans rfl
  have hl := blk_lt hb
  clear hb
  go_enter Tryz.func43, Tryz.ntmps43
  go_wp2
  go_ret
  exact ⟨rfl, rfl⟩
theorem wdec_0 (h : Nat) (w : World) (hb : w.heap[h]? = some (.cells #[.string gwc, .string ⟨#[]⟩] 182 (0, 0))) : Calls Tryz.prog 43 #[.pointer (some ⟨h, 0, none⟩)] w fun e w' => e = .returned (.iface 197 (.pointer (some ⟨w.heap.size, 0, none⟩))) ∧ w' = w.alloc (.cells #[] 198) := by
  have c0 : w.cell? ⟨h, 0, none⟩ = some (.string gwc) := (blk_cell hb 0).trans rfl
  have c1 : w.cell? ⟨h, 1, none⟩ = some (.string ⟨#[]⟩) := (blk_cell hb 1).trans rfl
  have hl := blk_lt hb
  clear hb
  go_enter Tryz.func43, Tryz.ntmps43
  go_wp2
  go_ret
  exact ⟨rfl, rfl⟩
abbrev winI (s e : Int) : Value := .iface 194 (.agg #[.int .i64 s, .int .i64 e])
theorem taT (s e : Int) : ∀ W : World, (Instr.typeAssert (winI s e) 88 194 true).run Tryz.prog W = .ok (.tuple #[.agg #[.int .i64 s, .int .i64 e], .bool true]) W := fun _ => by kernel_rfl
theorem taG : ∀ W : World, (Instr.typeAssert (.iface 192 (.agg #[])) 88 194 true).run Tryz.prog W = .ok (.tuple #[.agg #[.int .i64 0, .int .i64 0], .bool false]) W := fun _ => by kernel_rfl
theorem blk_alloc' {w : World} {g : Nat} {o o' : Obj} (h : w.heap[g]? = some o) : (w.alloc o').heap[g]? = some o := (Below.heap_alloc w o' g (blk_lt h)).trans h
end Go.Proofs.YtgdbeiadlgkedaaGreatDoor
namespace Go.Proofs.YtgdbeiadlgkedaaGreatDoor
open Go.RowKit
set_option linter.unusedVariables false
set_option linter.unusedSimpArgs false
set_option maxHeartbeats 8000000 in
set_option maxRecDepth 100000 in
theorem decVal_11_ok (B : Nat) (pe pl : Addr) (t : ByteArray) (w : World) (ht : t.size ≤ 4294967296) (he : Env B pe pl w) (hB : B ≤ w.heap.size) (v k : Nat) (hR : vrd 0 0 t.data.toList = some (v, k)) :
    Calls Tryz.prog 35 #[.int .i64 11, .string t] w fun e w' => e = .returned (.tuple #[.agg #[(.int .i64 11), (.bool false), (.int .i64 (wrap64 (v : Nat))), (.int .u64 0), (.int .u64 0), (.string ⟨#[]⟩), (.int .i64 0), (.bool false), (.bool false), (.int .i64 0), (.int .i64 0)], .int .i64 (k : Nat), .string ⟨#[]⟩]) ∧ Below w.heap.size w w' := by
  have kc := conv_bytes
  have HT := Lib.hid (And.intro ht (And.intro he hB))
  have HY := Lib.hid hR
  clear ht he hB hR
  go_enter Tryz.func35, Tryz.ntmps35
  go_wp2_with (first
    | (go_at_call 42; go_loud (refine (newRd_any (w.alloc (.cells (zv 0) 73)) (w.heap.size + 1) (World.size_alloc ..) t HT.out.1).mono ?_; rintro e_ w1 ⟨r, rfl, hr1, hr2, hr3⟩; obtain ⟨hs1, hs2, hs3, hs4⟩ := dv_start (b := 0) HT.out.2.2 HT.out.2.1 hr2 hr3; have y0 : w1.cell? ⟨w.heap.size, 0, none⟩ = some (.int .i64 0) := (blk_cell hs1 0).trans rfl; have g0 : w1.frozen? ⟨w.heap.size, 0, none⟩ = false := blk_frozen hs1 0; have HS := Lib.hid (And.intro hr1 (And.intro hs1 (And.intro hs2 (And.intro hs3 hs4)))); have HR3 := Lib.hid hr3; clear hr1 hr2 hr3 hs1 hs2 hs3 hs4))
    | (go_at_call 91; go_loud (refine (decVarI_ok B pe pl r (w.heap.size + 1) t.data.toList 0 v k _ ?rd ?en HS.out.2.2.2.2 HY.out).mono ?_; (case rd => exact HS.out.1.set _ _ (by have := HR3.out; show w.heap.size ≠ r; omega) (by show w.heap.size ≠ w.heap.size + 1; omega)); (case en => exact HS.out.2.2.1.below ((Below.refl _ _).setCell (by exact HT.out.2.2) _)); rintro e_ w2 ⟨rfl, hg, hrd⟩; have hb2 : w2.heap[w.heap.size]? = some (.cells (zv 11) 73 (0, 0)) := (hg.block _ (by have := blk_lt HS.out.2.1; simpa [World.setCell] using this) (by have := HR3.out; intro e; cases e; omega)).trans ((Lib.heap_setCell_same (i := 0) HS.out.2.1 (.int .i64 11)).trans rfl); have c0 : w2.cell? ⟨w.heap.size, 0, none⟩ = some (.int .i64 11) := (blk_cell hb2 0).trans rfl; have f0 : w2.frozen? ⟨w.heap.size, 0, none⟩ = false := blk_frozen hb2 0; have c1 : w2.cell? ⟨w.heap.size, 1, none⟩ = some (.bool false) := (blk_cell hb2 1).trans rfl; have f1 : w2.frozen? ⟨w.heap.size, 1, none⟩ = false := blk_frozen hb2 1; have c2 : w2.cell? ⟨w.heap.size, 2, none⟩ = some (.int .i64 0) := (blk_cell hb2 2).trans rfl; have f2 : w2.frozen? ⟨w.heap.size, 2, none⟩ = false := blk_frozen hb2 2; have c3 : w2.cell? ⟨w.heap.size, 3, none⟩ = some (.int .u64 0) := (blk_cell hb2 3).trans rfl; have f3 : w2.frozen? ⟨w.heap.size, 3, none⟩ = false := blk_frozen hb2 3; have c4 : w2.cell? ⟨w.heap.size, 4, none⟩ = some (.int .u64 0) := (blk_cell hb2 4).trans rfl; have f4 : w2.frozen? ⟨w.heap.size, 4, none⟩ = false := blk_frozen hb2 4; have c5 : w2.cell? ⟨w.heap.size, 5, none⟩ = some (.string ⟨#[]⟩) := (blk_cell hb2 5).trans rfl; have f5 : w2.frozen? ⟨w.heap.size, 5, none⟩ = false := blk_frozen hb2 5; have c6 : w2.cell? ⟨w.heap.size, 6, none⟩ = some (.int .i64 0) := (blk_cell hb2 6).trans rfl; have f6 : w2.frozen? ⟨w.heap.size, 6, none⟩ = false := blk_frozen hb2 6; have c7 : w2.cell? ⟨w.heap.size, 7, none⟩ = some (.bool false) := (blk_cell hb2 7).trans rfl; have f7 : w2.frozen? ⟨w.heap.size, 7, none⟩ = false := blk_frozen hb2 7; have c8 : w2.cell? ⟨w.heap.size, 8, none⟩ = some (.bool false) := (blk_cell hb2 8).trans rfl; have f8 : w2.frozen? ⟨w.heap.size, 8, none⟩ = false := blk_frozen hb2 8; have c9 : w2.cell? ⟨w.heap.size, 9, none⟩ = some (.int .i64 0) := (blk_cell hb2 9).trans rfl; have f9 : w2.frozen? ⟨w.heap.size, 9, none⟩ = false := blk_frozen hb2 9; have c10 : w2.cell? ⟨w.heap.size, 10, none⟩ = some (.int .i64 0) := (blk_cell hb2 10).trans rfl; have f10 : w2.frozen? ⟨w.heap.size, 10, none⟩ = false := blk_frozen hb2 10; rw [Nat.zero_add] at hrd; have HB0 := Lib.hid hb2; have HG := Lib.hid hg; have HD := Lib.hid hrd; clear hg hrd hb2)))
  obtain ⟨W, hW⟩ : ∃ W, W = w2.setCell ⟨w.heap.size, 2, none⟩ (.int .i64 (wrap64 (v : Nat))) := ⟨_, rfl⟩
  have HB2 := Lib.hid (show W.heap[w.heap.size]? = some (.cells #[(.int .i64 11), (.bool false), (.int .i64 (wrap64 (v : Nat))), (.int .u64 0), (.int .u64 0), (.string ⟨#[]⟩), (.int .i64 0), (.bool false), (.bool false), (.int .i64 0), (.int .i64 0)] 73 (0, 0)) by
    rw [hW]; exact (Lib.heap_setCell_same (i := 2) HB0.out (.int .i64 (wrap64 (v : Nat)))).trans rfl)
  have HD2 := Lib.hid (show Rd r (w.heap.size + 1) t.data.toList k W by
    rw [hW]; exact HD.out.set ⟨w.heap.size, 2, none⟩ _ (by have := HR3.out; show w.heap.size ≠ r; omega) (by show w.heap.size ≠ w.heap.size + 1; omega))
  rw [← hW]
  have HW := Lib.hid hW
  clear hW c0 f0 c1 f1 c2 f2 c3 f3 c4 f4 c5 f5 c6 f6 c7 f7 c8 f8 c9 f9 c10 f10
  have c0 : W.cell? ⟨w.heap.size, 0, none⟩ = some (.int .i64 11) := (blk_cell HB2.out 0).trans rfl
  have f0 : W.frozen? ⟨w.heap.size, 0, none⟩ = false := blk_frozen HB2.out 0
  have c1 : W.cell? ⟨w.heap.size, 1, none⟩ = some (.bool false) := (blk_cell HB2.out 1).trans rfl
  have f1 : W.frozen? ⟨w.heap.size, 1, none⟩ = false := blk_frozen HB2.out 1
  have c2 : W.cell? ⟨w.heap.size, 2, none⟩ = some (.int .i64 (wrap64 (v : Nat))) := (blk_cell HB2.out 2).trans rfl
  have f2 : W.frozen? ⟨w.heap.size, 2, none⟩ = false := blk_frozen HB2.out 2
  have c3 : W.cell? ⟨w.heap.size, 3, none⟩ = some (.int .u64 0) := (blk_cell HB2.out 3).trans rfl
  have f3 : W.frozen? ⟨w.heap.size, 3, none⟩ = false := blk_frozen HB2.out 3
  have c4 : W.cell? ⟨w.heap.size, 4, none⟩ = some (.int .u64 0) := (blk_cell HB2.out 4).trans rfl
  have f4 : W.frozen? ⟨w.heap.size, 4, none⟩ = false := blk_frozen HB2.out 4
  have c5 : W.cell? ⟨w.heap.size, 5, none⟩ = some (.string ⟨#[]⟩) := (blk_cell HB2.out 5).trans rfl
  have f5 : W.frozen? ⟨w.heap.size, 5, none⟩ = false := blk_frozen HB2.out 5
  have c6 : W.cell? ⟨w.heap.size, 6, none⟩ = some (.int .i64 0) := (blk_cell HB2.out 6).trans rfl
  have f6 : W.frozen? ⟨w.heap.size, 6, none⟩ = false := blk_frozen HB2.out 6
  have c7 : W.cell? ⟨w.heap.size, 7, none⟩ = some (.bool false) := (blk_cell HB2.out 7).trans rfl
  have f7 : W.frozen? ⟨w.heap.size, 7, none⟩ = false := blk_frozen HB2.out 7
  have c8 : W.cell? ⟨w.heap.size, 8, none⟩ = some (.bool false) := (blk_cell HB2.out 8).trans rfl
  have f8 : W.frozen? ⟨w.heap.size, 8, none⟩ = false := blk_frozen HB2.out 8
  have c9 : W.cell? ⟨w.heap.size, 9, none⟩ = some (.int .i64 0) := (blk_cell HB2.out 9).trans rfl
  have f9 : W.frozen? ⟨w.heap.size, 9, none⟩ = false := blk_frozen HB2.out 9
  have c10 : W.cell? ⟨w.heap.size, 10, none⟩ = some (.int .i64 0) := (blk_cell HB2.out 10).trans rfl
  have f10 : W.frozen? ⟨w.heap.size, 10, none⟩ = false := blk_frozen HB2.out 10
  have qs : (t.size : Int) - ((t.data.toList.length - k : Nat) : Int) = (k : Nat) := by
    have h1 := HD2.out.le
    have h2 : t.data.toList.length = t.size := by rw [Array.length_toList]; rfl
    omega
  have qs2 : IntKind.i64.wrap ((k : Nat) : Int) = (k : Nat) := IntWalk.i64_in _ (by have := HD2.out.le; have := HD2.out.len; omega)
  obtain ⟨L, hL⟩ : ∃ L, Hid (t.data.toList.length - k = L) := ⟨_, Lib.hid rfl⟩
  rw [hL.out] at qs
  go_region_with (first | (go_at_call 44; refine (len_any r (w.heap.size + 1) t.data.toList k _ ?rd).mono ?_; (case rd => exact HD2.out.drewN 1); rw [hL.out]; rintro e_ w4 ⟨rfl, q4, rfl⟩) | (go_at_call 41; refine (word_nil _).mono ?_; rintro e_ w5 ⟨rfl, rfl⟩))
  all_goals
    refine (by assumption : ∀ (a : Act) (w : World), Code.wp _ Code.ret _ a w → _) _ _ ?_
    go_wp2
    obtain ⟨X, hX⟩ : ∃ X, X = (W.drewN (1 + q4)).setCells w.heap.size 0 [(.int .i64 11), (.bool false), (.int .i64 (wrap64 (v : Nat))), (.int .u64 0), (.int .u64 0), (.string ⟨#[]⟩), (.int .i64 0), (.bool false), (.bool false), (.int .i64 0), (.int .i64 0)] := ⟨_, rfl⟩
    have hXb : X.heap[w.heap.size]? = some (.cells #[(.int .i64 11), (.bool false), (.int .i64 (wrap64 (v : Nat))), (.int .u64 0), (.int .u64 0), (.string ⟨#[]⟩), (.int .i64 0), (.bool false), (.bool false), (.int .i64 0), (.int .i64 0)] 73 (0, 0)) := by
      rw [hX]; exact setCells_self _ _ _ _ _ 0 (W.drewN (1 + q4)) HB2.out (fun j v hj => by rw [Nat.zero_add]; simpa using hj)
    have hXw : Below w.heap.size w X := by
      rw [hX]
      exact (dv_below HS.out.2.2.2.1 HG.out HW.out (by have := HR3.out; omega)).trans (Lib.below_setCells_w (Nat.le_refl _) _ _ _)
    simp only [World.setCells] at hX
    rw [← hX]
    have HX := Lib.hid hXw
    clear hX hXw c0 f0 c1 f1 c2 f2 c3 f3 c4 f4 c5 f5 c6 f6 c7 f7 c8 f8 c9 f9 c10 f10
    have c0 : X.cell? ⟨w.heap.size, 0, none⟩ = some (.int .i64 11) := (blk_cell hXb 0).trans rfl
    have c1 : X.cell? ⟨w.heap.size, 1, none⟩ = some (.bool false) := (blk_cell hXb 1).trans rfl
    have c2 : X.cell? ⟨w.heap.size, 2, none⟩ = some (.int .i64 (wrap64 (v : Nat))) := (blk_cell hXb 2).trans rfl
    have c3 : X.cell? ⟨w.heap.size, 3, none⟩ = some (.int .u64 0) := (blk_cell hXb 3).trans rfl
    have c4 : X.cell? ⟨w.heap.size, 4, none⟩ = some (.int .u64 0) := (blk_cell hXb 4).trans rfl
    have c5 : X.cell? ⟨w.heap.size, 5, none⟩ = some (.string ⟨#[]⟩) := (blk_cell hXb 5).trans rfl
    have c6 : X.cell? ⟨w.heap.size, 6, none⟩ = some (.int .i64 0) := (blk_cell hXb 6).trans rfl
    have c7 : X.cell? ⟨w.heap.size, 7, none⟩ = some (.bool false) := (blk_cell hXb 7).trans rfl
    have c8 : X.cell? ⟨w.heap.size, 8, none⟩ = some (.bool false) := (blk_cell hXb 8).trans rfl
    have c9 : X.cell? ⟨w.heap.size, 9, none⟩ = some (.int .i64 0) := (blk_cell hXb 9).trans rfl
    have c10 : X.cell? ⟨w.heap.size, 10, none⟩ = some (.int .i64 0) := (blk_cell hXb 10).trans rfl
    clear hXb
    refine bodyPost_ret (v := .tuple #[.agg #[(.int .i64 11), (.bool false), (.int .i64 (wrap64 (v : Nat))), (.int .u64 0), (.int .u64 0), (.string ⟨#[]⟩), (.int .i64 0), (.bool false), (.bool false), (.int .i64 0), (.int .i64 0)], .int .i64 (k : Nat), .string ⟨#[]⟩]) (by simp [results, Tryz.results35, go_sem, c0, c1, c2, c3, c4, c5, c6, c7, c8, c9, c10]; try rfl) rfl ⟨rfl, HX.out⟩
end Go.Proofs.YtgdbeiadlgkedaaGreatDoor
namespace Go.Proofs.YtgdbeiadlgkedaaGreatDoor
open Go.RowKit
set_option linter.unusedVariables false
set_option linter.unusedSimpArgs false
theorem uv300 : Lib.uvarint (u64of 300) = [172, 2] := by
  rw [show u64of 300 = 300 by decide, Lib.uvarint_big (by decide), Lib.uvarint_small (by decide)]; rfl
theorem vrd300 : vrd 0 0 (ByteArray.mk #[172, 2, 120]).data.toList = some (300, 2) := by decide
set_option maxHeartbeats 4000000 in
set_option maxRecDepth 100000 in
theorem awake_any (B : Nat) (pe pl : Addr) (w : World) (he : Env B pe pl w) (hB : B ≤ w.heap.size) :
    Calls Tryz.prog 11 #[] w fun e w' => e = .returned (.bool true) ∧ Below w.heap.size w w' := by
  have HC := Lib.hid (encVal_11 false 300 0 0 ⟨#[]⟩ 0 false false 0 0 w)
  have HV := Lib.hid uv300
  have HE := Lib.hid (And.intro he hB)
  clear he hB
  have HW : Hid (wrap64 ((300 : Nat) : Int) = 300) := Lib.hid (by unfold wrap64; omega)
  go_enter Tryz.func11, Tryz.ntmps11
  go_wp2_with (first
    | (go_at_call 34; go_loud (refine HC.out.mono ?_; rintro e_ w1 ⟨rfl, hb1⟩; rw [HV.out]; have HB := Lib.hid hb1; clear hb1))
    | (go_at_call 35; go_loud (refine (decVal_11_ok B pe pl ⟨#[172, 2, 120]⟩ w1 (by decide) (HE.out.1.below (HB.out.mono HE.out.2)) (Nat.le_trans HE.out.2 HB.out.size) 300 2 vrd300).mono ?_; rintro e_ w2 ⟨rfl, hb2⟩; rw [HW.out]; have HB2 := Lib.hid (HB.out.trans (hb2.mono HB.out.size)); clear hb2)))
  go_ret
  exact ⟨rfl, HB2.out.alloc HB2.out.size _⟩
end Go.Proofs.YtgdbeiadlgkedaaGreatDoor
