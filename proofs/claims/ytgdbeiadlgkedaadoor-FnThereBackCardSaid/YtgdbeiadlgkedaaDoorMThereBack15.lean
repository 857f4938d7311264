/- Contracts and plain laws, several texts in one. -/
import Derived.Test.YtgdbeiadlgkedaaDoorMThereBack3
import Derived.Test.YtgdbeiadlgkedaaDoorMThereBack10
import Derived.Test.YtgdbeiadlgkedaaDoorMThereBack12
import Derived.Test.YtgdbeiadlgkedaaDoorMThereBack14
namespace Go.Proofs.YtgdbeiadlgkedaaDoor
open Go.RowKit
set_option linter.unusedVariables false
set_option linter.unusedSimpArgs false
abbrev zP : Array Value := #[.int .u8 0, .bool false, .bool false, .int .i64 0, .int .i64 0]
theorem and15 (b : Nat) (h : b < 256) : bits .and .u8 (b : Int) 15 = ((b % 16 : Nat) : Int) := by
  have : ∀ b : Fin 256, bits .and .u8 ((b : Nat) : Int) 15 = (((b : Nat) % 16 : Nat) : Int) := by decide +kernel
  exact this ⟨b, h⟩
theorem pane_head (r g : Nat) (l : List UInt8) (i : Nat) (x : UInt8) (w : World) (h : Rd r g l i w) (hx : l[i]? = some x) :
    Calls Tryd.prog 94 #[rdI r, .slice (some ⟨w.heap.size + 1, 0, none⟩) 1 1] ((w.alloc (.cells zP 100)).alloc (.cells #[.int .u8 0] 161)) fun e w' => e = .returned .nilIface ∧ Rd r g l (i + 1) w' ∧ w'.cell? ⟨w.heap.size + 1, 0, none⟩ = some (.int .u8 x.toNat) ∧ w'.heap[w.heap.size]? = some (.cells zP 100 (0, 0)) ∧ w.grownBy w' (some r) ∧ w.heap.size + 2 ≤ w'.heap.size := by
  have hne := h.ge (.cells #[] 0)
  have hne1 : w.heap.size + 1 ≠ r := by have := h.lt; omega
  have hne2 : w.heap.size + 1 ≠ g := by have := h.ltg; omega
  have hi : i + 1 ≤ l.length := (List.getElem?_eq_some_iff.1 hx).1
  have hd : ((w.alloc (.cells zP 100)).alloc (.cells #[.int .u8 0] 161)).heap[w.heap.size + 1]? = some (.cells #[.int .u8 0] 161 (0, 0)) := by
    have := heap_alloc_new (w.alloc (.cells zP 100)) (.cells #[.int .u8 0] 161); rwa [World.size_alloc] at this
  have hX : ((l.drop i).take 1)[0]? = some x := by rw [List.getElem?_take_of_lt (by decide), List.getElem?_drop]; exact hx
  refine (fix_ok r g l i (w.heap.size + 1) 1 _ _ _ ((h.alloc _).alloc _) (by decide) hi hd hne1 hne2 rfl).mono fun e w' ⟨h0, h1, h2, h3⟩ => ⟨h0, h1, (h2.get hX).trans rfl, ?_, ?_, ?_⟩
  · exact (h3.block _ (by simp; omega) (by have := h.lt; omega) (by omega)).trans ((Below.heap_alloc _ _ _ (by simp)).trans (heap_alloc_new w _))
  · exact Two.grown (grown_alloc (grown_alloc (grown_refl (r := r) w) _) _) h3 (by omega)
  · have := h3.size; simp at this; omega
theorem grown_setge {r : Nat} {w w' : World} (h : w.grownBy w' (some r)) {p : Addr} (hp : w.heap.size ≤ p.block) (v : Value) : w.grownBy (w'.setCell p v) (some r) :=
  ⟨h.os, h.tape, h.output, by rw [World.size_setCell]; exact h.size, fun k hk hr => (Below.heap_setCell _ _ _ _ (by omega)).trans (h.block k hk hr)⟩
theorem grown_lower {r : Nat} {w w1 w2 : World} (h : w.grownBy w1 (some r)) (k : Below w1.heap.size w1 w2) : w.grownBy w2 (some r) :=
  ⟨k.os.trans h.os, k.tape.trans h.tape, k.output.trans h.output, Nat.le_trans h.size k.size, fun i hi hr => (k.block i (Nat.lt_of_lt_of_le hi h.size)).trans (h.block i hi hr)⟩
theorem pane_set {w X : World} {b r g j : Nat} {l : List UInt8} {u0 u1 u2 u3 u4 : Value} (hZ : X.heap[b]? = some (.cells #[u0, u1, u2, u3, u4] 100 (0, 0))) (hb : w.heap.size ≤ b) (hg : w.grownBy X (some r)) (hr : Rd r g l j X) (hrl : r < w.heap.size) (hgl : g < w.heap.size) (v0 v1 v2 v3 v4 : Value) :
    (((((X.setCell ⟨b, 0, none⟩ v0).setCell ⟨b, 1, none⟩ v1).setCell ⟨b, 2, none⟩ v2).setCell ⟨b, 3, none⟩ v3).setCell ⟨b, 4, none⟩ v4).heap[b]? = some (.cells #[v0, v1, v2, v3, v4] 100 (0, 0)) ∧
    w.grownBy (((((X.setCell ⟨b, 0, none⟩ v0).setCell ⟨b, 1, none⟩ v1).setCell ⟨b, 2, none⟩ v2).setCell ⟨b, 3, none⟩ v3).setCell ⟨b, 4, none⟩ v4) (some r) ∧
    Rd r g l j (((((X.setCell ⟨b, 0, none⟩ v0).setCell ⟨b, 1, none⟩ v1).setCell ⟨b, 2, none⟩ v2).setCell ⟨b, 3, none⟩ v3).setCell ⟨b, 4, none⟩ v4) := by
  have n1 : b ≠ r := by omega
  have n2 : b ≠ g := by omega
  exact ⟨set5 hZ v0 v1 v2 v3 v4, grown_setge (grown_setge (grown_setge (grown_setge (grown_setge hg hb _) hb _) hb _) hb _) hb _, ((((hr.set ⟨b, 0, none⟩ _ n1 n2).set ⟨b, 1, none⟩ _ n1 n2).set ⟨b, 2, none⟩ _ n1 n2).set ⟨b, 3, none⟩ _ n1 n2).set ⟨b, 4, none⟩ _ n1 n2⟩
theorem Err.set {ev : Value} {X : World} {b j : Nat} {cs : Array Value} {T : TypeId} (h : Err ev X) (hb : X.heap[b]? = some (.cells cs T (0, 0))) (hs : ∀ s : ByteArray, (Value.string s) ∉ cs) (v : Value) : Err ev (X.setCell ⟨b, j, none⟩ v) := by
  obtain ⟨a, s, e1, e2, e3⟩ := h
  refine ⟨a, s, e1, (World.cell?_of_block (a := a) (Below.heap_setCell _ _ _ _ (fun e => ?_))).trans e2, e3⟩
  have e4 : X.heap[a.block]? = some (.cells cs T (0, 0)) := by rw [show a.block = b from e]; exact hb
  simp [World.cell?, e4] at e2
  exact hs s (Array.mem_of_getElem? e2.2)
set_option maxHeartbeats 8000000 in
set_option maxRecDepth 100000 in
theorem decPane_0 (r g : Nat) (l : List UInt8) (i : Nat) (x : UInt8) (w : World) (h : Rd r g l i w) (hx : l[i]? = some x) (hf : x.toNat / 16 = 0) :
    Calls Tryd.prog 53 #[rdI r] w fun e w' => e = .returned (.tuple #[.agg #[.int .u8 (x.toNat / 4 % 4 : Nat), .bool (x.toNat % 2 = 1), .bool (x.toNat / 2 % 2 = 1), .int .i64 0, .int .i64 0], .nilIface]) ∧ w.grownBy w' (some r) ∧ Rd r g l (i + 1) w' := by
  have HC := Lib.hid (pane_head r g l i x w h hx)
  obtain ⟨n, hn⟩ : ∃ n, Hid (x.toNat = n) := ⟨_, Lib.hid rfl⟩
  have hn256 : n < 256 := by have := x.toNat_lt; have := hn.out; omega
  rw [hn.out] at HC hf ⊢
  have qa := and15 n hn256
  obtain ⟨m, hm⟩ : ∃ m, Hid (n % 16 = m) := ⟨_, Lib.hid rfl⟩
  rw [hm.out] at qa
  have q4 : (n : Int) / 16 = 0 := by omega
  have HN := Lib.hid (newPane_any m (by have := hm.out; omega))
  obtain ⟨y, hy⟩ : ∃ y, Hid (m / 4 % 4 = y) := ⟨_, Lib.hid rfl⟩
  obtain ⟨f, hf'⟩ : ∃ f, Hid (decide (m % 2 = 1) = f) := ⟨_, Lib.hid rfl⟩
  obtain ⟨la, hla⟩ : ∃ la, Hid (decide (m / 2 % 2 = 1) = la) := ⟨_, Lib.hid rfl⟩
  rw [hy.out, hf'.out, hla.out] at HN
  have ey : n / 4 % 4 = y := by have := hm.out; have := hy.out; omega
  rw [ey, show (decide (n % 2 = 1)) = f by rw [← hf'.out]; apply decide_eq_decide.2; have := hm.out; omega, show (decide (n / 2 % 2 = 1)) = la by rw [← hla.out]; apply decide_eq_decide.2; have := hm.out; omega]
  have HL := Lib.hid (And.intro h.lt h.ltg)
  clear h hx hf hn256 ey
  go_enter Tryd.func53, Tryd.ntmps53
  go_wp2_with (first
    | (go_at_call 94; go_loud (refine HC.out.mono ?_; rintro e_ w1 ⟨rfl, h1, x0, h3, h4, h5⟩; have H1 := Lib.hid (And.intro h1 (And.intro h3 (And.intro h4 h5))); have X0 := Lib.hid x0; clear h1 h3 h4 h5))
    | (go_at_call 86; go_loud (refine (HN.out w1).mono ?_; rintro e_ w2 ⟨rfl, hb⟩; have z0 := (hb.cell (p := ⟨w.heap.size + 1, 0, none⟩) (by have := H1.out.2.2.2; show w.heap.size + 1 < w1.heap.size; omega)).trans X0.out; have hz : w.heap.size + 1 < w2.heap.size := (by have := hb.size; have := H1.out.2.2.2; omega); have Z2 := Lib.hid ((hb.block _ (blk_lt H1.out.2.1)).trans H1.out.2.1); have hz0 : w.heap.size < w2.heap.size := (by omega); obtain ⟨p0, p1, p2, p3, p4⟩ := laid5 Z2.out; obtain ⟨o0, o1, o2, o3, o4⟩ := open5 Z2.out; have H2 := Lib.hid (And.intro (grown_lower H1.out.2.2.1 hb) (H1.out.1.below hb)); clear hb)))
  have hF := pane_set (w := w) Z2.out (Nat.le_refl _) H2.out.1 H2.out.2 HL.out.1 HL.out.2 (.int .u8 y) (.bool f) (.bool la) (.int .i64 0) (.int .i64 0)
  have HF := Lib.hid (And.intro ((Below.heap_alloc _ (.cells #[.int .u8 y, .bool f, .bool la, .int .i64 0, .int .i64 0] 100) _ (blk_lt hF.1)).trans hF.1) (And.intro (grown_alloc hF.2.1 (.cells #[.int .u8 y, .bool f, .bool la, .int .i64 0, .int .i64 0] 100)) (hF.2.2.alloc (.cells #[.int .u8 y, .bool f, .bool la, .int .i64 0, .int .i64 0] 100))))
  clear p0 p1 p2 p3 p4 o0 o1 o2 o3 o4 z0 x0 hF
  generalize (((((w2.setCell ⟨w.heap.size, 0, none⟩ (.int .u8 y)).setCell ⟨w.heap.size, 1, none⟩ (.bool f)).setCell ⟨w.heap.size, 2, none⟩ (.bool la)).setCell ⟨w.heap.size, 3, none⟩ (.int .i64 0)).setCell ⟨w.heap.size, 4, none⟩ (.int .i64 0)).alloc (.cells #[.int .u8 y, .bool f, .bool la, .int .i64 0, .int .i64 0] 100) = X at HF ⊢
  obtain ⟨c0, c1, c2, c3, c4⟩ := laid5 HF.out.1
  exact bodyPost_ret (v := .tuple #[.agg #[.int .u8 y, .bool f, .bool la, .int .i64 0, .int .i64 0], .nilIface]) (by simp [results, Tryd.results53, go_sem, c0, c1, c2, c3, c4]; try rfl) rfl ⟨rfl, HF.out.2.1, HF.out.2.2⟩
set_option maxHeartbeats 8000000 in
set_option maxRecDepth 100000 in
theorem decPane_1z (r g : Nat) (l : List UInt8) (i : Nat) (x : UInt8) (w : World) (h : Rd r g l i w) (hx : l[i]? = some x) (hf : x.toNat / 16 = 1) (hy0 : x.toNat / 4 % 4 = 0) (B : Nat) (pe pl : Addr) (he : Env B pe pl w) (hBr : B ≤ r) (hB : B ≤ w.heap.size) (v k : Nat) (hv : vrd 0 0 (l.drop (i + 1)) = some (v, k)) :
    Calls Tryd.prog 53 #[rdI r] w fun e w' => e = .returned (.tuple #[.agg #[.int .u8 (x.toNat / 4 % 4 : Nat), .bool (x.toNat % 2 = 1), .bool (x.toNat / 2 % 2 = 1), .int .i64 (wrap64 (v : Nat)), .int .i64 (-1)], .nilIface]) ∧ w.grownBy w' (some r) ∧ Rd r g l (i + 1 + k) w' := by
  have HC := Lib.hid (pane_head r g l i x w h hx)
  obtain ⟨n, hn⟩ : ∃ n, Hid (x.toNat = n) := ⟨_, Lib.hid rfl⟩
  have hn256 : n < 256 := by have := x.toNat_lt; have := hn.out; omega
  rw [hn.out] at HC hf hy0 ⊢
  have qa := and15 n hn256
  obtain ⟨m, hm⟩ : ∃ m, Hid (n % 16 = m) := ⟨_, Lib.hid rfl⟩
  rw [hm.out] at qa
  have q4 : (n : Int) / 16 = 1 := by omega
  have HN := Lib.hid (newPane_any m (by have := hm.out; omega))
  obtain ⟨y, hy⟩ : ∃ y, Hid (m / 4 % 4 = y) := ⟨_, Lib.hid rfl⟩
  obtain ⟨f, hf'⟩ : ∃ f, Hid (decide (m % 2 = 1) = f) := ⟨_, Lib.hid rfl⟩
  obtain ⟨la, hla⟩ : ∃ la, Hid (decide (m / 2 % 2 = 1) = la) := ⟨_, Lib.hid rfl⟩
  rw [hy.out, hf'.out, hla.out] at HN
  have ey : n / 4 % 4 = y := by have := hm.out; have := hy.out; omega
  rw [ey, show (decide (n % 2 = 1)) = f by rw [← hf'.out]; apply decide_eq_decide.2; have := hm.out; omega, show (decide (n / 2 % 2 = 1)) = la by rw [← hla.out]; apply decide_eq_decide.2; have := hm.out; omega]
  have HL := Lib.hid (And.intro h.lt h.ltg)
  rw [ey] at hy0
  have qy : ((y : Int) == 0) = true := by rw [hy0]; rfl
  have HE := Lib.hid (And.intro he (And.intro hB hBr))
  have HV := Lib.hid hv
  obtain ⟨V, hV⟩ : ∃ V, Hid (wrap64 ((v : Nat) : Int) = V) := ⟨_, Lib.hid rfl⟩
  rw [hV.out]
  clear h hx hf hn256 ey hv he hBr hB hy0
  go_enter Tryd.func53, Tryd.ntmps53
  go_wp2_with (first
    | (go_at_call 94; go_loud (refine HC.out.mono ?_; rintro e_ w1 ⟨rfl, h1, x0, h3, h4, h5⟩; have H1 := Lib.hid (And.intro h1 (And.intro h3 (And.intro h4 h5))); have X0 := Lib.hid x0; clear h1 h3 h4 h5))
    | (go_at_call 86; go_loud (refine (HN.out w1).mono ?_; rintro e_ w2 ⟨rfl, hb⟩; have z0 := (hb.cell (p := ⟨w.heap.size + 1, 0, none⟩) (by have := H1.out.2.2.2; show w.heap.size + 1 < w1.heap.size; omega)).trans X0.out; have hz : w.heap.size + 1 < w2.heap.size := (by have := hb.size; have := H1.out.2.2.2; omega); have Z2 := Lib.hid ((hb.block _ (blk_lt H1.out.2.1)).trans H1.out.2.1); have hz0 : w.heap.size < w2.heap.size := (by omega);  have H2 := Lib.hid (And.intro (grown_lower H1.out.2.2.1 hb) (H1.out.1.below hb)); clear hb))
    | (go_at_call 60; go_loud (refine (decVarI_ok B pe pl r g l (i + 1) v k _ (H2.out.2.alloc _) (HE.out.1.below (grown_below (grown_alloc H2.out.1 _) HE.out.2.1 HE.out.2.2)) HE.out.2.2 HV.out).mono ?_; rw [hV.out]; rintro e_ w3 ⟨rfl, hg3, hr3⟩; have Z3 := Lib.hid ((hg3.block _ (by rw [World.size_alloc]; omega) (by intro e; cases e; have := HL.out.1; omega)).trans ((Below.heap_alloc _ _ _ hz0).trans Z2.out)); have Y3 := Lib.hid ((hg3.block _ (by rw [World.size_alloc]; omega) (by intro e; cases e; have := HL.out.1; omega)).trans (heap_alloc_new w2 _)); obtain ⟨p0, p1, p2, p3, p4⟩ := laid5 Z3.out; obtain ⟨o0, o1, o2, o3, o4⟩ := open5 Z3.out; obtain ⟨s0, s1, s2, s3, s4⟩ := laid5 Y3.out; obtain ⟨t0, t1, t2, t3, t4⟩ := open5 Y3.out; have hne1 : w.heap.size ≠ w2.heap.size := (by omega); have hne2 : w2.heap.size ≠ w.heap.size := (by omega); have H3 := Lib.hid (And.intro (grown_trans (grown_alloc H2.out.1 _) hg3) hr3); clear hg3 hr3)))
  have HF := Lib.hid (pane_set (w := w) (X := ((w3.setCell ⟨w2.heap.size, 3, none⟩ (.int .i64 V)).setCell ⟨w2.heap.size, 4, none⟩ (.int .i64 (-1)))) ((Below.heap_setCell _ _ _ _ (by show w.heap.size ≠ w2.heap.size; omega)).trans ((Below.heap_setCell _ _ _ _ (by show w.heap.size ≠ w2.heap.size; omega)).trans Z3.out)) (Nat.le_refl _) (grown_setge (grown_setge H3.out.1 (by show w.heap.size ≤ w2.heap.size; omega) _) (by show w.heap.size ≤ w2.heap.size; omega) _) ((H3.out.2.set _ _ (by have := HL.out.1; show w2.heap.size ≠ r; omega) (by have := HL.out.2; show w2.heap.size ≠ g; omega)).set _ _ (by have := HL.out.1; show w2.heap.size ≠ r; omega) (by have := HL.out.2; show w2.heap.size ≠ g; omega)) HL.out.1 HL.out.2 (.int .u8 y) (.bool f) (.bool la) (.int .i64 V) (.int .i64 (-1)))
  clear p0 p1 p2 p3 p4 o0 o1 o2 o3 o4 s0 s1 s2 s3 s4 t0 t1 t2 t3 t4 z0 x0
  generalize (((((((w3.setCell ⟨w2.heap.size, 3, none⟩ (.int .i64 V)).setCell ⟨w2.heap.size, 4, none⟩ (.int .i64 (-1))).setCell ⟨w.heap.size, 0, none⟩ (.int .u8 y)).setCell ⟨w.heap.size, 1, none⟩ (.bool f)).setCell ⟨w.heap.size, 2, none⟩ (.bool la)).setCell ⟨w.heap.size, 3, none⟩ (.int .i64 V)).setCell ⟨w.heap.size, 4, none⟩ (.int .i64 (-1))) = X at HF ⊢
  obtain ⟨c0, c1, c2, c3, c4⟩ := laid5 HF.out.1
  exact bodyPost_ret (v := .tuple #[.agg #[.int .u8 y, .bool f, .bool la, .int .i64 V, .int .i64 (-1)], .nilIface]) (by simp [results, Tryd.results53, go_sem, c0, c1, c2, c3, c4]; try rfl) rfl ⟨rfl, HF.out.2.1, HF.out.2.2⟩
set_option maxHeartbeats 8000000 in
set_option maxRecDepth 100000 in
theorem decPane_1 (r g : Nat) (l : List UInt8) (i : Nat) (x : UInt8) (w : World) (h : Rd r g l i w) (hx : l[i]? = some x) (hf : x.toNat / 16 = 1) (hy0 : x.toNat / 4 % 4 ≠ 0) (B : Nat) (pe pl : Addr) (he : Env B pe pl w) (hBr : B ≤ r) (hB : B ≤ w.heap.size) (v k : Nat) (hv : vrd 0 0 (l.drop (i + 1)) = some (v, k)) :
    Calls Tryd.prog 53 #[rdI r] w fun e w' => e = .returned (.tuple #[.agg #[.int .u8 (x.toNat / 4 % 4 : Nat), .bool (x.toNat % 2 = 1), .bool (x.toNat / 2 % 2 = 1), .int .i64 (wrap64 (v : Nat)), .int .i64 (wrap64 (v : Nat))], .nilIface]) ∧ w.grownBy w' (some r) ∧ Rd r g l (i + 1 + k) w' := by
  have HC := Lib.hid (pane_head r g l i x w h hx)
  obtain ⟨n, hn⟩ : ∃ n, Hid (x.toNat = n) := ⟨_, Lib.hid rfl⟩
  have hn256 : n < 256 := by have := x.toNat_lt; have := hn.out; omega
  rw [hn.out] at HC hf hy0 ⊢
  have qa := and15 n hn256
  obtain ⟨m, hm⟩ : ∃ m, Hid (n % 16 = m) := ⟨_, Lib.hid rfl⟩
  rw [hm.out] at qa
  have q4 : (n : Int) / 16 = 1 := by omega
  have HN := Lib.hid (newPane_any m (by have := hm.out; omega))
  obtain ⟨y, hy⟩ : ∃ y, Hid (m / 4 % 4 = y) := ⟨_, Lib.hid rfl⟩
  obtain ⟨f, hf'⟩ : ∃ f, Hid (decide (m % 2 = 1) = f) := ⟨_, Lib.hid rfl⟩
  obtain ⟨la, hla⟩ : ∃ la, Hid (decide (m / 2 % 2 = 1) = la) := ⟨_, Lib.hid rfl⟩
  rw [hy.out, hf'.out, hla.out] at HN
  have ey : n / 4 % 4 = y := by have := hm.out; have := hy.out; omega
  rw [ey, show (decide (n % 2 = 1)) = f by rw [← hf'.out]; apply decide_eq_decide.2; have := hm.out; omega, show (decide (n / 2 % 2 = 1)) = la by rw [← hla.out]; apply decide_eq_decide.2; have := hm.out; omega]
  have HL := Lib.hid (And.intro h.lt h.ltg)
  rw [ey] at hy0
  have qy : ((y : Int) == 0) = false := beq_eq_false_iff_ne.2 (by omega)
  have HE := Lib.hid (And.intro he (And.intro hB hBr))
  have HV := Lib.hid hv
  obtain ⟨V, hV⟩ : ∃ V, Hid (wrap64 ((v : Nat) : Int) = V) := ⟨_, Lib.hid rfl⟩
  rw [hV.out]
  clear h hx hf hn256 ey hv he hBr hB hy0
  go_enter Tryd.func53, Tryd.ntmps53
  go_wp2_with (first
    | (go_at_call 94; go_loud (refine HC.out.mono ?_; rintro e_ w1 ⟨rfl, h1, x0, h3, h4, h5⟩; have H1 := Lib.hid (And.intro h1 (And.intro h3 (And.intro h4 h5))); have X0 := Lib.hid x0; clear h1 h3 h4 h5))
    | (go_at_call 86; go_loud (refine (HN.out w1).mono ?_; rintro e_ w2 ⟨rfl, hb⟩; have z0 := (hb.cell (p := ⟨w.heap.size + 1, 0, none⟩) (by have := H1.out.2.2.2; show w.heap.size + 1 < w1.heap.size; omega)).trans X0.out; have hz : w.heap.size + 1 < w2.heap.size := (by have := hb.size; have := H1.out.2.2.2; omega); have Z2 := Lib.hid ((hb.block _ (blk_lt H1.out.2.1)).trans H1.out.2.1); have hz0 : w.heap.size < w2.heap.size := (by omega);  have H2 := Lib.hid (And.intro (grown_lower H1.out.2.2.1 hb) (H1.out.1.below hb)); clear hb))
    | (go_at_call 60; go_loud (refine (decVarI_ok B pe pl r g l (i + 1) v k _ (H2.out.2.alloc _) (HE.out.1.below (grown_below (grown_alloc H2.out.1 _) HE.out.2.1 HE.out.2.2)) HE.out.2.2 HV.out).mono ?_; rw [hV.out]; rintro e_ w3 ⟨rfl, hg3, hr3⟩; have Z3 := Lib.hid ((hg3.block _ (by rw [World.size_alloc]; omega) (by intro e; cases e; have := HL.out.1; omega)).trans ((Below.heap_alloc _ _ _ hz0).trans Z2.out)); have Y3 := Lib.hid ((hg3.block _ (by rw [World.size_alloc]; omega) (by intro e; cases e; have := HL.out.1; omega)).trans (heap_alloc_new w2 _)); obtain ⟨p0, p1, p2, p3, p4⟩ := laid5 Z3.out; obtain ⟨o0, o1, o2, o3, o4⟩ := open5 Z3.out; obtain ⟨s0, s1, s2, s3, s4⟩ := laid5 Y3.out; obtain ⟨t0, t1, t2, t3, t4⟩ := open5 Y3.out; have hne1 : w.heap.size ≠ w2.heap.size := (by omega); have hne2 : w2.heap.size ≠ w.heap.size := (by omega); have H3 := Lib.hid (And.intro (grown_trans (grown_alloc H2.out.1 _) hg3) hr3); clear hg3 hr3)))
  have HF := Lib.hid (pane_set (w := w) (X := ((w3.setCell ⟨w2.heap.size, 3, none⟩ (.int .i64 V)).setCell ⟨w2.heap.size, 4, none⟩ (.int .i64 V))) ((Below.heap_setCell _ _ _ _ (by show w.heap.size ≠ w2.heap.size; omega)).trans ((Below.heap_setCell _ _ _ _ (by show w.heap.size ≠ w2.heap.size; omega)).trans Z3.out)) (Nat.le_refl _) (grown_setge (grown_setge H3.out.1 (by show w.heap.size ≤ w2.heap.size; omega) _) (by show w.heap.size ≤ w2.heap.size; omega) _) ((H3.out.2.set _ _ (by have := HL.out.1; show w2.heap.size ≠ r; omega) (by have := HL.out.2; show w2.heap.size ≠ g; omega)).set _ _ (by have := HL.out.1; show w2.heap.size ≠ r; omega) (by have := HL.out.2; show w2.heap.size ≠ g; omega)) HL.out.1 HL.out.2 (.int .u8 y) (.bool f) (.bool la) (.int .i64 V) (.int .i64 V))
  clear p0 p1 p2 p3 p4 o0 o1 o2 o3 o4 s0 s1 s2 s3 s4 t0 t1 t2 t3 t4 z0 x0
  generalize (((((((w3.setCell ⟨w2.heap.size, 3, none⟩ (.int .i64 V)).setCell ⟨w2.heap.size, 4, none⟩ (.int .i64 V)).setCell ⟨w.heap.size, 0, none⟩ (.int .u8 y)).setCell ⟨w.heap.size, 1, none⟩ (.bool f)).setCell ⟨w.heap.size, 2, none⟩ (.bool la)).setCell ⟨w.heap.size, 3, none⟩ (.int .i64 V)).setCell ⟨w.heap.size, 4, none⟩ (.int .i64 V)) = X at HF ⊢
  obtain ⟨c0, c1, c2, c3, c4⟩ := laid5 HF.out.1
  exact bodyPost_ret (v := .tuple #[.agg #[.int .u8 y, .bool f, .bool la, .int .i64 V, .int .i64 V], .nilIface]) (by simp [results, Tryd.results53, go_sem, c0, c1, c2, c3, c4]; try rfl) rfl ⟨rfl, HF.out.2.1, HF.out.2.2⟩
set_option maxHeartbeats 8000000 in
set_option maxRecDepth 100000 in
theorem decPane_2 (r g : Nat) (l : List UInt8) (i : Nat) (x : UInt8) (w : World) (h : Rd r g l i w) (hx : l[i]? = some x) (hf : x.toNat / 16 = 2) (B : Nat) (pe pl : Addr) (he : Env B pe pl w) (hBr : B ≤ r) (hB : B ≤ w.heap.size) (v k v2 k2 : Nat) (hv : vrd 0 0 (l.drop (i + 1)) = some (v, k)) (hv2 : vrd 0 0 (l.drop (i + 1 + k)) = some (v2, k2)) :
    Calls Tryd.prog 53 #[rdI r] w fun e w' => e = .returned (.tuple #[.agg #[.int .u8 (x.toNat / 4 % 4 : Nat), .bool (x.toNat % 2 = 1), .bool (x.toNat / 2 % 2 = 1), .int .i64 (wrap64 (v : Nat)), .int .i64 (wrap64 (v2 : Nat))], .nilIface]) ∧ w.grownBy w' (some r) ∧ Rd r g l (i + 1 + k + k2) w' := by
  have HC := Lib.hid (pane_head r g l i x w h hx)
  obtain ⟨n, hn⟩ : ∃ n, Hid (x.toNat = n) := ⟨_, Lib.hid rfl⟩
  have hn256 : n < 256 := by have := x.toNat_lt; have := hn.out; omega
  rw [hn.out] at HC hf ⊢
  have qa := and15 n hn256
  obtain ⟨m, hm⟩ : ∃ m, Hid (n % 16 = m) := ⟨_, Lib.hid rfl⟩
  rw [hm.out] at qa
  have q4 : (n : Int) / 16 = 2 := by omega
  have HN := Lib.hid (newPane_any m (by have := hm.out; omega))
  obtain ⟨y, hy⟩ : ∃ y, Hid (m / 4 % 4 = y) := ⟨_, Lib.hid rfl⟩
  obtain ⟨f, hf'⟩ : ∃ f, Hid (decide (m % 2 = 1) = f) := ⟨_, Lib.hid rfl⟩
  obtain ⟨la, hla⟩ : ∃ la, Hid (decide (m / 2 % 2 = 1) = la) := ⟨_, Lib.hid rfl⟩
  rw [hy.out, hf'.out, hla.out] at HN
  have ey : n / 4 % 4 = y := by have := hm.out; have := hy.out; omega
  rw [ey, show (decide (n % 2 = 1)) = f by rw [← hf'.out]; apply decide_eq_decide.2; have := hm.out; omega, show (decide (n / 2 % 2 = 1)) = la by rw [← hla.out]; apply decide_eq_decide.2; have := hm.out; omega]
  have HL := Lib.hid (And.intro h.lt h.ltg)
  have HE := Lib.hid (And.intro he (And.intro hB hBr))
  have HV := Lib.hid hv
  have HV2 := Lib.hid hv2
  obtain ⟨V, hV⟩ : ∃ V, Hid (wrap64 ((v : Nat) : Int) = V) := ⟨_, Lib.hid rfl⟩
  obtain ⟨V2, hV2⟩ : ∃ V2, Hid (wrap64 ((v2 : Nat) : Int) = V2) := ⟨_, Lib.hid rfl⟩
  rw [hV.out, hV2.out]
  clear h hx hf hn256 ey hv hv2 he hBr hB
  go_enter Tryd.func53, Tryd.ntmps53
  go_wp2_with (first
    | (go_at_call 94; go_loud (refine HC.out.mono ?_; rintro e_ w1 ⟨rfl, h1, x0, h3, h4, h5⟩; have H1 := Lib.hid (And.intro h1 (And.intro h3 (And.intro h4 h5))); have X0 := Lib.hid x0; clear h1 h3 h4 h5))
    | (go_at_call 86; go_loud (refine (HN.out w1).mono ?_; rintro e_ w2 ⟨rfl, hb⟩; have z0 := (hb.cell (p := ⟨w.heap.size + 1, 0, none⟩) (by have := H1.out.2.2.2; show w.heap.size + 1 < w1.heap.size; omega)).trans X0.out; have hz : w.heap.size + 1 < w2.heap.size := (by have := hb.size; have := H1.out.2.2.2; omega); have Z2 := Lib.hid ((hb.block _ (blk_lt H1.out.2.1)).trans H1.out.2.1); have hz0 : w.heap.size < w2.heap.size := (by omega);  have H2 := Lib.hid (And.intro (grown_lower H1.out.2.2.1 hb) (H1.out.1.below hb)); clear hb))
    | (go_at_call 60; ((with_reducible refine (decVarI_ok B pe pl r g l (i + 1) v k _ (H2.out.2.alloc _) (HE.out.1.below (grown_below (grown_alloc H2.out.1 _) HE.out.2.1 HE.out.2.2)) HE.out.2.2 HV.out).mono ?_); rw [hV.out]; rintro e_ w3 ⟨rfl, hg3, hr3⟩; have Z3 := Lib.hid ((hg3.block _ (by rw [World.size_alloc]; omega) (by intro e; cases e; have := HL.out.1; omega)).trans ((Below.heap_alloc _ _ _ hz0).trans Z2.out)); have Y3 := Lib.hid ((hg3.block _ (by rw [World.size_alloc]; omega) (by intro e; cases e; have := HL.out.1; omega)).trans (heap_alloc_new w2 _)); obtain ⟨s0, s1, s2, s3, s4⟩ := laid5 Y3.out; obtain ⟨t0, t1, t2, t3, t4⟩ := open5 Y3.out; have hne1 : w.heap.size ≠ w2.heap.size := (by omega); have hne2 : w2.heap.size ≠ w.heap.size := (by omega); have hsz3 := hg3.size; have H3 := Lib.hid (And.intro (grown_trans (grown_alloc H2.out.1 _) hg3) (And.intro hr3 hsz3)); clear hg3 hr3 hsz3))
    | (go_at_call 60; ((with_reducible refine (decVarI_ok B pe pl r g l (i + 1 + k) v2 k2 (w3.setCell ⟨w2.heap.size, 3, none⟩ (.int .i64 V)) (H3.out.2.1.set _ _ (by have := HL.out.1; show w2.heap.size ≠ r; omega) (by have := HL.out.2; show w2.heap.size ≠ g; omega)) (HE.out.1.below (grown_below (grown_setge H3.out.1 (by show w.heap.size ≤ w2.heap.size; omega) _) HE.out.2.1 HE.out.2.2)) HE.out.2.2 HV2.out).mono ?_); rw [hV2.out]; rintro e_ w4 ⟨rfl, hg4, hr4⟩; have Z4 := Lib.hid ((hg4.block _ (by rw [World.size_setCell]; exact blk_lt Z3.out) (by intro e; cases e; have := HL.out.1; omega)).trans ((Below.heap_setCell _ _ _ _ (by show w.heap.size ≠ w2.heap.size; omega)).trans Z3.out)); have Y4 := Lib.hid ((hg4.block _ (by rw [World.size_setCell]; exact blk_lt Y3.out) (by intro e; cases e; have := HL.out.1; omega)).trans ((Lib.heap_setCell_same (i := 3) Y3.out (.int .i64 V)).trans rfl)); clear s0 s1 s2 s3 s4 t0 t1 t2 t3 t4; obtain ⟨s0, s1, s2, s3, s4⟩ := laid5 Y4.out; obtain ⟨t0, t1, t2, t3, t4⟩ := open5 Y4.out; obtain ⟨p0, p1, p2, p3, p4⟩ := laid5 Z4.out; obtain ⟨o0, o1, o2, o3, o4⟩ := open5 Z4.out; have H4 := Lib.hid (And.intro (grown_trans (grown_setge H3.out.1 (by show w.heap.size ≤ w2.heap.size; omega) _) hg4) hr4); clear hg4 hr4)))
  have HF := Lib.hid (pane_set (w := w) (X := (w4.setCell ⟨w2.heap.size, 4, none⟩ (.int .i64 V2))) ((Below.heap_setCell _ _ _ _ (by show w.heap.size ≠ w2.heap.size; omega)).trans Z4.out) (Nat.le_refl _) (grown_setge H4.out.1 (by show w.heap.size ≤ w2.heap.size; omega) _) (H4.out.2.set _ _ (by have := HL.out.1; show w2.heap.size ≠ r; omega) (by have := HL.out.2; show w2.heap.size ≠ g; omega)) HL.out.1 HL.out.2 (.int .u8 y) (.bool f) (.bool la) (.int .i64 V) (.int .i64 V2))
  clear p0 p1 p2 p3 p4 o0 o1 o2 o3 o4 s0 s1 s2 s3 s4 t0 t1 t2 t3 t4 z0 x0
  generalize ((((((w4.setCell ⟨w2.heap.size, 4, none⟩ (.int .i64 V2)).setCell ⟨w.heap.size, 0, none⟩ (.int .u8 y)).setCell ⟨w.heap.size, 1, none⟩ (.bool f)).setCell ⟨w.heap.size, 2, none⟩ (.bool la)).setCell ⟨w.heap.size, 3, none⟩ (.int .i64 V)).setCell ⟨w.heap.size, 4, none⟩ (.int .i64 V2)) = X at HF ⊢
  obtain ⟨c0, c1, c2, c3, c4⟩ := laid5 HF.out.1
  exact bodyPost_ret (v := .tuple #[.agg #[.int .u8 y, .bool f, .bool la, .int .i64 V, .int .i64 V2], .nilIface]) (by simp [results, Tryd.results53, go_sem, c0, c1, c2, c3, c4]; try rfl) rfl ⟨rfl, HF.out.2.1, HF.out.2.2⟩
end Go.Proofs.YtgdbeiadlgkedaaDoor
namespace Go.Proofs.YtgdbeiadlgkedaaDoor
open Go.RowKit
set_option linter.unusedVariables false
set_option linter.unusedSimpArgs false
set_option maxHeartbeats 8000000 in
set_option maxRecDepth 100000 in
theorem decVal_6_ok (B : Nat) (pe pl : Addr) (t : ByteArray) (w : World) (ht : t.size ≤ 4294967296) (he : Env B pe pl w) (hB : B ≤ w.heap.size) (ty : Nat) (f l : Bool) (i n : Int) (K : Nat) (hR : ty < 256 ∧ ∀ (r g : Nat) (w1 : World), Rd r g t.data.toList 0 w1 → Env B pe pl w1 → B ≤ r → B ≤ w1.heap.size → Calls Tryd.prog 53 #[rdI r] w1 fun e w' => e = .returned (.tuple #[.agg #[.int .u8 ty, .bool f, .bool l, .int .i64 i, .int .i64 n], .nilIface]) ∧ w1.grownBy w' (some r) ∧ Rd r g t.data.toList (0 + K) w') :
    Calls Tryd.prog 20 #[.int .i64 6, .string t] w fun e w' => e = .returned (.tuple #[.agg #[(.int .i64 6), (.bool false), (.int .i64 0), (.int .u64 0), (.int .u64 0), (.string ⟨#[]⟩), (.int .i64 ty), (.bool f), (.bool l), (.int .i64 i), (.int .i64 n)], .int .i64 (K : Nat), .string ⟨#[]⟩]) ∧ Below w.heap.size w w' := by
  have kc := conv_bytes
  have HT := Lib.hid (And.intro ht (And.intro he hB))
  have HY := Lib.hid hR
  clear ht he hB hR
  go_enter Tryd.func20, Tryd.ntmps20
  go_wp2_with (first
    | (go_at_call 45; go_loud (refine (newRd_any (w.alloc (.cells (zv 0) 26)) (w.heap.size + 1) (World.size_alloc ..) t HT.out.1).mono ?_; rintro e_ w1 ⟨r, rfl, hr1, hr2, hr3⟩; obtain ⟨hs1, hs2, hs3, hs4⟩ := dv_start (b := 0) HT.out.2.2 HT.out.2.1 hr2 hr3; have y0 : w1.cell? ⟨w.heap.size, 0, none⟩ = some (.int .i64 0) := (blk_cell hs1 0).trans rfl; have g0 : w1.frozen? ⟨w.heap.size, 0, none⟩ = false := blk_frozen hs1 0; have HS := Lib.hid (And.intro hr1 (And.intro hs1 (And.intro hs2 (And.intro hs3 hs4)))); have HR3 := Lib.hid hr3; clear hr1 hr2 hr3 hs1 hs2 hs3 hs4))
    | (go_at_call 53; go_loud (refine (HY.out.2 r (w.heap.size + 1) _ ?rd ?en HS.out.2.2.2.2 ?sz).mono ?_; (case rd => exact (HS.out.1.set _ _ (by have := HR3.out; show w.heap.size ≠ r; omega) (by show w.heap.size ≠ w.heap.size + 1; omega)).alloc _); (case en => exact HS.out.2.2.1.below (((Below.refl _ _).setCell (by exact HT.out.2.2) _).alloc (by have := HS.out.1.lt; have := HS.out.2.2.2.2; simp [World.setCell]; omega) _)); (case sz => have := HS.out.1.lt; have := HS.out.2.2.2.2; simp [World.setCell]; omega); rintro e_ w2 ⟨rfl, hg, hrd⟩; have hb2 : w2.heap[w.heap.size]? = some (.cells (zv 6) 26 (0, 0)) := (hg.block _ (by have := blk_lt HS.out.2.1; simp [World.setCell]; omega) (by have := HR3.out; intro e; cases e; omega)).trans ((Below.heap_alloc _ _ _ (by have := blk_lt HS.out.2.1; simpa [World.setCell] using this)).trans ((Lib.heap_setCell_same (i := 0) HS.out.2.1 (.int .i64 6)).trans rfl)); have c0 : w2.cell? ⟨w.heap.size, 0, none⟩ = some (.int .i64 6) := (blk_cell hb2 0).trans rfl; have f0 : w2.frozen? ⟨w.heap.size, 0, none⟩ = false := blk_frozen hb2 0; have c1 : w2.cell? ⟨w.heap.size, 1, none⟩ = some (.bool false) := (blk_cell hb2 1).trans rfl; have f1 : w2.frozen? ⟨w.heap.size, 1, none⟩ = false := blk_frozen hb2 1; have c2 : w2.cell? ⟨w.heap.size, 2, none⟩ = some (.int .i64 0) := (blk_cell hb2 2).trans rfl; have f2 : w2.frozen? ⟨w.heap.size, 2, none⟩ = false := blk_frozen hb2 2; have c3 : w2.cell? ⟨w.heap.size, 3, none⟩ = some (.int .u64 0) := (blk_cell hb2 3).trans rfl; have f3 : w2.frozen? ⟨w.heap.size, 3, none⟩ = false := blk_frozen hb2 3; have c4 : w2.cell? ⟨w.heap.size, 4, none⟩ = some (.int .u64 0) := (blk_cell hb2 4).trans rfl; have f4 : w2.frozen? ⟨w.heap.size, 4, none⟩ = false := blk_frozen hb2 4; have c5 : w2.cell? ⟨w.heap.size, 5, none⟩ = some (.string ⟨#[]⟩) := (blk_cell hb2 5).trans rfl; have f5 : w2.frozen? ⟨w.heap.size, 5, none⟩ = false := blk_frozen hb2 5; have c6 : w2.cell? ⟨w.heap.size, 6, none⟩ = some (.int .i64 0) := (blk_cell hb2 6).trans rfl; have f6 : w2.frozen? ⟨w.heap.size, 6, none⟩ = false := blk_frozen hb2 6; have c7 : w2.cell? ⟨w.heap.size, 7, none⟩ = some (.bool false) := (blk_cell hb2 7).trans rfl; have f7 : w2.frozen? ⟨w.heap.size, 7, none⟩ = false := blk_frozen hb2 7; have c8 : w2.cell? ⟨w.heap.size, 8, none⟩ = some (.bool false) := (blk_cell hb2 8).trans rfl; have f8 : w2.frozen? ⟨w.heap.size, 8, none⟩ = false := blk_frozen hb2 8; have c9 : w2.cell? ⟨w.heap.size, 9, none⟩ = some (.int .i64 0) := (blk_cell hb2 9).trans rfl; have f9 : w2.frozen? ⟨w.heap.size, 9, none⟩ = false := blk_frozen hb2 9; have c10 : w2.cell? ⟨w.heap.size, 10, none⟩ = some (.int .i64 0) := (blk_cell hb2 10).trans rfl; have f10 : w2.frozen? ⟨w.heap.size, 10, none⟩ = false := blk_frozen hb2 10; rw [Nat.zero_add] at hrd; have hsb : w2.heap[w1.heap.size]? = some (.cells zP 100 (0, 0)) := (hg.block _ (by simp [World.setCell]) (by have := HS.out.1.lt; intro e; cases e; omega)).trans (by have := heap_alloc_new (w1.setCell ⟨w.heap.size, 0, none⟩ (.int .i64 6)) (.cells zP 100); simpa [World.setCell] using this); have s0 : w2.cell? ⟨w1.heap.size, 0, none⟩ = some (.int .u8 0) := (blk_cell hsb 0).trans rfl; have t0 : w2.frozen? ⟨w1.heap.size, 0, none⟩ = false := blk_frozen hsb 0; have s1 : w2.cell? ⟨w1.heap.size, 1, none⟩ = some (.bool false) := (blk_cell hsb 1).trans rfl; have t1 : w2.frozen? ⟨w1.heap.size, 1, none⟩ = false := blk_frozen hsb 1; have s2 : w2.cell? ⟨w1.heap.size, 2, none⟩ = some (.bool false) := (blk_cell hsb 2).trans rfl; have t2 : w2.frozen? ⟨w1.heap.size, 2, none⟩ = false := blk_frozen hsb 2; have s3 : w2.cell? ⟨w1.heap.size, 3, none⟩ = some (.int .i64 0) := (blk_cell hsb 3).trans rfl; have t3 : w2.frozen? ⟨w1.heap.size, 3, none⟩ = false := blk_frozen hsb 3; have s4 : w2.cell? ⟨w1.heap.size, 4, none⟩ = some (.int .i64 0) := (blk_cell hsb 4).trans rfl; have t4 : w2.frozen? ⟨w1.heap.size, 4, none⟩ = false := blk_frozen hsb 4; have HSB := Lib.hid hsb; clear hsb; have HB0 := Lib.hid hb2; have HG := Lib.hid hg; have HD := Lib.hid hrd; clear hg hrd hb2))
    | (go_at_call 54; go_loud (refine (backPane_any ty f l i n HY.out.1 _).mono ?_; rintro e_ w3 ⟨rfl, hb3⟩; clear c0 f0 c1 f1 c2 f2 c3 f3 c4 f4 c5 f5 c6 f6 c7 f7 c8 f8 c9 f9 c10 f10 s0 t0 s1 t1 s2 t2 s3 t3 s4 t4; have hk3 : ∀ k, k < w2.heap.size → k ≠ w1.heap.size → w3.heap[k]? = w2.heap[k]? := (fun k hk hn => (hb3.block k (by simpa [World.setCell] using hk)).trans ((Below.heap_setCell _ _ _ _ hn).trans ((Below.heap_setCell _ _ _ _ hn).trans ((Below.heap_setCell _ _ _ _ hn).trans ((Below.heap_setCell _ _ _ _ hn).trans (Below.heap_setCell _ _ _ _ hn)))))); have hb3b : w3.heap[w.heap.size]? = some (.cells (zv 6) 26 (0, 0)) := (hk3 _ (blk_lt HB0.out) (by have := HS.out.1.lt; have := HR3.out; omega)).trans HB0.out; have c0 : w3.cell? ⟨w.heap.size, 0, none⟩ = some (.int .i64 6) := (blk_cell hb3b 0).trans rfl; have f0 : w3.frozen? ⟨w.heap.size, 0, none⟩ = false := blk_frozen hb3b 0; have c1 : w3.cell? ⟨w.heap.size, 1, none⟩ = some (.bool false) := (blk_cell hb3b 1).trans rfl; have f1 : w3.frozen? ⟨w.heap.size, 1, none⟩ = false := blk_frozen hb3b 1; have c2 : w3.cell? ⟨w.heap.size, 2, none⟩ = some (.int .i64 0) := (blk_cell hb3b 2).trans rfl; have f2 : w3.frozen? ⟨w.heap.size, 2, none⟩ = false := blk_frozen hb3b 2; have c3 : w3.cell? ⟨w.heap.size, 3, none⟩ = some (.int .u64 0) := (blk_cell hb3b 3).trans rfl; have f3 : w3.frozen? ⟨w.heap.size, 3, none⟩ = false := blk_frozen hb3b 3; have c4 : w3.cell? ⟨w.heap.size, 4, none⟩ = some (.int .u64 0) := (blk_cell hb3b 4).trans rfl; have f4 : w3.frozen? ⟨w.heap.size, 4, none⟩ = false := blk_frozen hb3b 4; have c5 : w3.cell? ⟨w.heap.size, 5, none⟩ = some (.string ⟨#[]⟩) := (blk_cell hb3b 5).trans rfl; have f5 : w3.frozen? ⟨w.heap.size, 5, none⟩ = false := blk_frozen hb3b 5; have c6 : w3.cell? ⟨w.heap.size, 6, none⟩ = some (.int .i64 0) := (blk_cell hb3b 6).trans rfl; have f6 : w3.frozen? ⟨w.heap.size, 6, none⟩ = false := blk_frozen hb3b 6; have c7 : w3.cell? ⟨w.heap.size, 7, none⟩ = some (.bool false) := (blk_cell hb3b 7).trans rfl; have f7 : w3.frozen? ⟨w.heap.size, 7, none⟩ = false := blk_frozen hb3b 7; have c8 : w3.cell? ⟨w.heap.size, 8, none⟩ = some (.bool false) := (blk_cell hb3b 8).trans rfl; have f8 : w3.frozen? ⟨w.heap.size, 8, none⟩ = false := blk_frozen hb3b 8; have c9 : w3.cell? ⟨w.heap.size, 9, none⟩ = some (.int .i64 0) := (blk_cell hb3b 9).trans rfl; have f9 : w3.frozen? ⟨w.heap.size, 9, none⟩ = false := blk_frozen hb3b 9; have c10 : w3.cell? ⟨w.heap.size, 10, none⟩ = some (.int .i64 0) := (blk_cell hb3b 10).trans rfl; have f10 : w3.frozen? ⟨w.heap.size, 10, none⟩ = false := blk_frozen hb3b 10; have HB3 := Lib.hid hb3b; have HD3 := Lib.hid ((((((HD.out.set ⟨w1.heap.size, 0, none⟩ (.int .u8 ty) (by have := HS.out.1.lt; have := HR3.out; show w1.heap.size ≠ r; omega) (by have := HS.out.1.ltg; show w1.heap.size ≠ w.heap.size + 1; omega)).set ⟨w1.heap.size, 1, none⟩ (.bool f) (by have := HS.out.1.lt; have := HR3.out; show w1.heap.size ≠ r; omega) (by have := HS.out.1.ltg; show w1.heap.size ≠ w.heap.size + 1; omega)).set ⟨w1.heap.size, 2, none⟩ (.bool l) (by have := HS.out.1.lt; have := HR3.out; show w1.heap.size ≠ r; omega) (by have := HS.out.1.ltg; show w1.heap.size ≠ w.heap.size + 1; omega)).set ⟨w1.heap.size, 3, none⟩ (.int .i64 i) (by have := HS.out.1.lt; have := HR3.out; show w1.heap.size ≠ r; omega) (by have := HS.out.1.ltg; show w1.heap.size ≠ w.heap.size + 1; omega)).set ⟨w1.heap.size, 4, none⟩ (.int .i64 n) (by have := HS.out.1.lt; have := HR3.out; show w1.heap.size ≠ r; omega) (by have := HS.out.1.ltg; show w1.heap.size ≠ w.heap.size + 1; omega)).below hb3); have HBW := Lib.hid (((((((((HS.out.2.2.2.1.setCell (p := ⟨w.heap.size, 0, none⟩) (Nat.le_refl _) (.int .i64 6)).alloc (by have := HS.out.2.2.2.1.size; simpa [World.setCell] using this) (.cells zP 100)).trans (grown_below HG.out (by have := HS.out.2.2.2.1.size; simp [World.setCell]; omega) (by have := HR3.out; omega))).setCell (p := ⟨w1.heap.size, 0, none⟩) HS.out.2.2.2.1.size (.int .u8 ty)).setCell (p := ⟨w1.heap.size, 1, none⟩) HS.out.2.2.2.1.size (.bool f)).setCell (p := ⟨w1.heap.size, 2, none⟩) HS.out.2.2.2.1.size (.bool l)).setCell (p := ⟨w1.heap.size, 3, none⟩) HS.out.2.2.2.1.size (.int .i64 i)).setCell (p := ⟨w1.heap.size, 4, none⟩) HS.out.2.2.2.1.size (.int .i64 n)).trans (hb3.mono (by have h := HG.out.size; have h2 := HS.out.2.2.2.1.size; simp only [World.size_setCell, World.size_alloc] at h ⊢; clear hb3; omega))); clear hb3 hk3 hb3b)))
  obtain ⟨W, hW⟩ : ∃ W, W = w3.setCells w.heap.size 6 [(.int .i64 ty), (.bool f), (.bool l), (.int .i64 i), (.int .i64 n)] := ⟨_, rfl⟩
  simp only [World.setCells] at hW
  have HB2 := Lib.hid (show W.heap[w.heap.size]? = some (.cells #[(.int .i64 6), (.bool false), (.int .i64 0), (.int .u64 0), (.int .u64 0), (.string ⟨#[]⟩), (.int .i64 ty), (.bool f), (.bool l), (.int .i64 i), (.int .i64 n)] 26 (0, 0)) by
    rw [hW]; exact (Lib.heap_setCell_same (i := 10) (Lib.heap_setCell_same (i := 9) (Lib.heap_setCell_same (i := 8) (Lib.heap_setCell_same (i := 7) (Lib.heap_setCell_same (i := 6) HB3.out (.int .i64 ty)) (.bool f)) (.bool l)) (.int .i64 i)) (.int .i64 n)).trans rfl)
  have HD2 := Lib.hid (show Rd r (w.heap.size + 1) t.data.toList K W by
    rw [hW]; exact (((((HD3.out.set ⟨w.heap.size, 6, none⟩ (.int .i64 ty) (by have := HR3.out; show w.heap.size ≠ r; omega) (by show w.heap.size ≠ w.heap.size + 1; omega)).set ⟨w.heap.size, 7, none⟩ (.bool f) (by have := HR3.out; show w.heap.size ≠ r; omega) (by show w.heap.size ≠ w.heap.size + 1; omega)).set ⟨w.heap.size, 8, none⟩ (.bool l) (by have := HR3.out; show w.heap.size ≠ r; omega) (by show w.heap.size ≠ w.heap.size + 1; omega)).set ⟨w.heap.size, 9, none⟩ (.int .i64 i) (by have := HR3.out; show w.heap.size ≠ r; omega) (by show w.heap.size ≠ w.heap.size + 1; omega)).set ⟨w.heap.size, 10, none⟩ (.int .i64 n) (by have := HR3.out; show w.heap.size ≠ r; omega) (by show w.heap.size ≠ w.heap.size + 1; omega)))
  have HBW2 := Lib.hid (show Below w.heap.size w W by rw [hW]; exact (((((HBW.out.setCell (p := ⟨w.heap.size, 6, none⟩) (Nat.le_refl _) (.int .i64 ty)).setCell (p := ⟨w.heap.size, 7, none⟩) (Nat.le_refl _) (.bool f)).setCell (p := ⟨w.heap.size, 8, none⟩) (Nat.le_refl _) (.bool l)).setCell (p := ⟨w.heap.size, 9, none⟩) (Nat.le_refl _) (.int .i64 i)).setCell (p := ⟨w.heap.size, 10, none⟩) (Nat.le_refl _) (.int .i64 n)))
  rw [← hW]
  have HW := Lib.hid hW
  clear hW c0 f0 c1 f1 c2 f2 c3 f3 c4 f4 c5 f5 c6 f6 c7 f7 c8 f8 c9 f9 c10 f10
  have c0 : W.cell? ⟨w.heap.size, 0, none⟩ = some (.int .i64 6) := (blk_cell HB2.out 0).trans rfl
  have f0 : W.frozen? ⟨w.heap.size, 0, none⟩ = false := blk_frozen HB2.out 0
  have c1 : W.cell? ⟨w.heap.size, 1, none⟩ = some (.bool false) := (blk_cell HB2.out 1).trans rfl
  have f1 : W.frozen? ⟨w.heap.size, 1, none⟩ = false := blk_frozen HB2.out 1
  have c2 : W.cell? ⟨w.heap.size, 2, none⟩ = some (.int .i64 0) := (blk_cell HB2.out 2).trans rfl
  have f2 : W.frozen? ⟨w.heap.size, 2, none⟩ = false := blk_frozen HB2.out 2
  have c3 : W.cell? ⟨w.heap.size, 3, none⟩ = some (.int .u64 0) := (blk_cell HB2.out 3).trans rfl
  have f3 : W.frozen? ⟨w.heap.size, 3, none⟩ = false := blk_frozen HB2.out 3
  have c4 : W.cell? ⟨w.heap.size, 4, none⟩ = some (.int .u64 0) := (blk_cell HB2.out 4).trans rfl
  have f4 : W.frozen? ⟨w.heap.size, 4, none⟩ = false := blk_frozen HB2.out 4
  have c5 : W.cell? ⟨w.heap.size, 5, none⟩ = some (.string ⟨#[]⟩) := (blk_cell HB2.out 5).trans rfl
  have f5 : W.frozen? ⟨w.heap.size, 5, none⟩ = false := blk_frozen HB2.out 5
  have c6 : W.cell? ⟨w.heap.size, 6, none⟩ = some (.int .i64 ty) := (blk_cell HB2.out 6).trans rfl
  have f6 : W.frozen? ⟨w.heap.size, 6, none⟩ = false := blk_frozen HB2.out 6
  have c7 : W.cell? ⟨w.heap.size, 7, none⟩ = some (.bool f) := (blk_cell HB2.out 7).trans rfl
  have f7 : W.frozen? ⟨w.heap.size, 7, none⟩ = false := blk_frozen HB2.out 7
  have c8 : W.cell? ⟨w.heap.size, 8, none⟩ = some (.bool l) := (blk_cell HB2.out 8).trans rfl
  have f8 : W.frozen? ⟨w.heap.size, 8, none⟩ = false := blk_frozen HB2.out 8
  have c9 : W.cell? ⟨w.heap.size, 9, none⟩ = some (.int .i64 i) := (blk_cell HB2.out 9).trans rfl
  have f9 : W.frozen? ⟨w.heap.size, 9, none⟩ = false := blk_frozen HB2.out 9
  have c10 : W.cell? ⟨w.heap.size, 10, none⟩ = some (.int .i64 n) := (blk_cell HB2.out 10).trans rfl
  have f10 : W.frozen? ⟨w.heap.size, 10, none⟩ = false := blk_frozen HB2.out 10
  have qs : (t.size : Int) - ((t.data.toList.length - K : Nat) : Int) = (K : Nat) := by
    have h1 := HD2.out.le
    have h2 : t.data.toList.length = t.size := by rw [Array.length_toList]; rfl
    omega
  have qs2 : IntKind.i64.wrap ((K : Nat) : Int) = (K : Nat) := IntWalk.i64_in _ (by have := HD2.out.le; have := HD2.out.len; omega)
  obtain ⟨L, hL⟩ : ∃ L, Hid (t.data.toList.length - K = L) := ⟨_, Lib.hid rfl⟩
  rw [hL.out] at qs
  clear HB0 HB3 HD HD3 HG HSB HBW HW HR3 HS HT HY
  go_region_with (first | (go_at_call 62; refine (len_any r (w.heap.size + 1) t.data.toList K _ ?rd).mono ?_; (case rd => exact HD2.out.drewN 1); rw [hL.out]; rintro e_ w4 ⟨rfl, q4, rfl⟩) | (go_at_call 63; refine (word_nil _).mono ?_; rintro e_ w5 ⟨rfl, rfl⟩))
  all_goals
    refine (by assumption : ∀ (a : Act) (w : World), Code.wp _ Code.ret _ a w → _) _ _ ?_
    go_wp2
    obtain ⟨X, hX⟩ : ∃ X, X = (W.drewN (1 + q4)).setCells w.heap.size 0 [(.int .i64 6), (.bool false), (.int .i64 0), (.int .u64 0), (.int .u64 0), (.string ⟨#[]⟩), (.int .i64 ty), (.bool f), (.bool l), (.int .i64 i), (.int .i64 n)] := ⟨_, rfl⟩
    have hXb : X.heap[w.heap.size]? = some (.cells #[(.int .i64 6), (.bool false), (.int .i64 0), (.int .u64 0), (.int .u64 0), (.string ⟨#[]⟩), (.int .i64 ty), (.bool f), (.bool l), (.int .i64 i), (.int .i64 n)] 26 (0, 0)) := by
      rw [hX]; exact setCells_self _ _ _ _ _ 0 (W.drewN (1 + q4)) HB2.out (fun j v hj => by rw [Nat.zero_add]; simpa using hj)
    have hXw : Below w.heap.size w X := by
      rw [hX]
      exact (below_drewN HBW2.out (1 + q4)).trans (Lib.below_setCells_w (Nat.le_refl _) _ _ _)
    simp only [World.setCells] at hX
    rw [← hX]
    have HX := Lib.hid hXw
    clear hX hXw c0 f0 c1 f1 c2 f2 c3 f3 c4 f4 c5 f5 c6 f6 c7 f7 c8 f8 c9 f9 c10 f10
    have c0 : X.cell? ⟨w.heap.size, 0, none⟩ = some (.int .i64 6) := (blk_cell hXb 0).trans rfl
    have c1 : X.cell? ⟨w.heap.size, 1, none⟩ = some (.bool false) := (blk_cell hXb 1).trans rfl
    have c2 : X.cell? ⟨w.heap.size, 2, none⟩ = some (.int .i64 0) := (blk_cell hXb 2).trans rfl
    have c3 : X.cell? ⟨w.heap.size, 3, none⟩ = some (.int .u64 0) := (blk_cell hXb 3).trans rfl
    have c4 : X.cell? ⟨w.heap.size, 4, none⟩ = some (.int .u64 0) := (blk_cell hXb 4).trans rfl
    have c5 : X.cell? ⟨w.heap.size, 5, none⟩ = some (.string ⟨#[]⟩) := (blk_cell hXb 5).trans rfl
    have c6 : X.cell? ⟨w.heap.size, 6, none⟩ = some (.int .i64 ty) := (blk_cell hXb 6).trans rfl
    have c7 : X.cell? ⟨w.heap.size, 7, none⟩ = some (.bool f) := (blk_cell hXb 7).trans rfl
    have c8 : X.cell? ⟨w.heap.size, 8, none⟩ = some (.bool l) := (blk_cell hXb 8).trans rfl
    have c9 : X.cell? ⟨w.heap.size, 9, none⟩ = some (.int .i64 i) := (blk_cell hXb 9).trans rfl
    have c10 : X.cell? ⟨w.heap.size, 10, none⟩ = some (.int .i64 n) := (blk_cell hXb 10).trans rfl
    clear hXb
    refine bodyPost_ret (v := .tuple #[.agg #[(.int .i64 6), (.bool false), (.int .i64 0), (.int .u64 0), (.int .u64 0), (.string ⟨#[]⟩), (.int .i64 ty), (.bool f), (.bool l), (.int .i64 i), (.int .i64 n)], .int .i64 (K : Nat), .string ⟨#[]⟩]) (by simp [results, Tryd.results20, go_sem, c0, c1, c2, c3, c4, c5, c6, c7, c8, c9, c10]; try rfl) rfl ⟨rfl, HX.out⟩
end Go.Proofs.YtgdbeiadlgkedaaDoor
