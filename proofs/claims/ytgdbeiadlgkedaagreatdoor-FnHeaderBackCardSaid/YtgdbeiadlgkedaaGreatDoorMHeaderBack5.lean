/- Contracts and plain laws, several texts in one. -/
import Derived.Test.YtgdbeiadlgkedaaGreatDoorMHeaderBack2
import Derived.Test.YtgdbeiadlgkedaaGreatDoorMHeaderBack3
import Derived.Test.YtgdbeiadlgkedaaGreatDoorMHeaderBack4
import Derived.Laws.StructEq
namespace Go.Proofs.YtgdbeiadlgkedaaGreatDoor
open Go.RowKit
set_option linter.unusedVariables false
set_option linter.unusedSimpArgs false
abbrev zP : Array Value := #[.int .u8 0, .bool false, .bool false, .int .i64 0, .int .i64 0]
theorem and15 (b : Nat) (h : b < 256) : bits .and .u8 (b : Int) 15 = ((b % 16 : Nat) : Int) := by
  have : ∀ b : Fin 256, bits .and .u8 ((b : Nat) : Int) 15 = (((b : Nat) % 16 : Nat) : Int) := by decide +kernel
  exact this ⟨b, h⟩
theorem pane_head (r g : Nat) (l : List UInt8) (i : Nat) (x : UInt8) (w : World) (h : Rd r g l i w) (hx : l[i]? = some x) :
    Calls Tryz.prog 106 #[rdI r, .slice (some ⟨w.heap.size + 1, 0, none⟩) 1 1] ((w.alloc (.cells zP 119)).alloc (.cells #[.int .u8 0] 225)) fun e w' => e = .returned .nilIface ∧ Rd r g l (i + 1) w' ∧ w'.cell? ⟨w.heap.size + 1, 0, none⟩ = some (.int .u8 x.toNat) ∧ w'.heap[w.heap.size]? = some (.cells zP 119 (0, 0)) ∧ w.grownBy w' (some r) ∧ w.heap.size + 2 ≤ w'.heap.size := by
  have hne := h.ge (.cells #[] 0)
  have hne1 : w.heap.size + 1 ≠ r := by have := h.lt; omega
  have hne2 : w.heap.size + 1 ≠ g := by have := h.ltg; omega
  have hi : i + 1 ≤ l.length := (List.getElem?_eq_some_iff.1 hx).1
  have hd : ((w.alloc (.cells zP 119)).alloc (.cells #[.int .u8 0] 225)).heap[w.heap.size + 1]? = some (.cells #[.int .u8 0] 225 (0, 0)) := by
    have := heap_alloc_new (w.alloc (.cells zP 119)) (.cells #[.int .u8 0] 225); rwa [World.size_alloc] at this
  have hX : ((l.drop i).take 1)[0]? = some x := by rw [List.getElem?_take_of_lt (by decide), List.getElem?_drop]; exact hx
  refine (fix_ok r g l i (w.heap.size + 1) 1 _ _ _ ((h.alloc _).alloc _) (by decide) hi hd hne1 hne2 rfl).mono fun e w' ⟨h0, h1, h2, h3⟩ => ⟨h0, h1, (h2.get hX).trans rfl, ?_, ?_, ?_⟩
  · exact (h3.block _ (by simp; omega) (by have := h.lt; omega) (by omega)).trans ((Below.heap_alloc _ _ _ (by simp)).trans (heap_alloc_new w _))
  · exact Two.grown (grown_alloc (grown_alloc (grown_refl (r := r) w) _) _) h3 (by omega)
  · have := h3.size; simp at this; omega
theorem grown_setge {r : Nat} {w w' : World} (h : w.grownBy w' (some r)) {p : Addr} (hp : w.heap.size ≤ p.block) (v : Value) : w.grownBy (w'.setCell p v) (some r) :=
  ⟨h.os, h.tape, h.output, by rw [World.size_setCell]; exact h.size, fun k hk hr => (Below.heap_setCell _ _ _ _ (by omega)).trans (h.block k hk hr)⟩
theorem grown_lower {r : Nat} {w w1 w2 : World} (h : w.grownBy w1 (some r)) (k : Below w1.heap.size w1 w2) : w.grownBy w2 (some r) :=
  ⟨k.os.trans h.os, k.tape.trans h.tape, k.output.trans h.output, Nat.le_trans h.size k.size, fun i hi hr => (k.block i (Nat.lt_of_lt_of_le hi h.size)).trans (h.block i hi hr)⟩
theorem pane_set {w X : World} {b r g j : Nat} {l : List UInt8} {u0 u1 u2 u3 u4 : Value} (hZ : X.heap[b]? = some (.cells #[u0, u1, u2, u3, u4] 119 (0, 0))) (hb : w.heap.size ≤ b) (hg : w.grownBy X (some r)) (hr : Rd r g l j X) (hrl : r < w.heap.size) (hgl : g < w.heap.size) (v0 v1 v2 v3 v4 : Value) :
    (((((X.setCell ⟨b, 0, none⟩ v0).setCell ⟨b, 1, none⟩ v1).setCell ⟨b, 2, none⟩ v2).setCell ⟨b, 3, none⟩ v3).setCell ⟨b, 4, none⟩ v4).heap[b]? = some (.cells #[v0, v1, v2, v3, v4] 119 (0, 0)) ∧
    w.grownBy (((((X.setCell ⟨b, 0, none⟩ v0).setCell ⟨b, 1, none⟩ v1).setCell ⟨b, 2, none⟩ v2).setCell ⟨b, 3, none⟩ v3).setCell ⟨b, 4, none⟩ v4) (some r) ∧
    Rd r g l j (((((X.setCell ⟨b, 0, none⟩ v0).setCell ⟨b, 1, none⟩ v1).setCell ⟨b, 2, none⟩ v2).setCell ⟨b, 3, none⟩ v3).setCell ⟨b, 4, none⟩ v4) := by
  have n1 : b ≠ r := by omega
  have n2 : b ≠ g := by omega
  exact ⟨set5 hZ v0 v1 v2 v3 v4, grown_setge (grown_setge (grown_setge (grown_setge (grown_setge hg hb _) hb _) hb _) hb _) hb _, ((((hr.set ⟨b, 0, none⟩ _ n1 n2).set ⟨b, 1, none⟩ _ n1 n2).set ⟨b, 2, none⟩ _ n1 n2).set ⟨b, 3, none⟩ _ n1 n2).set ⟨b, 4, none⟩ _ n1 n2⟩
theorem Err.set {ev : Value} {X : World} {b j : Nat} {cs : Array Value} {T : TypeId} (h : Err ev X) (hb : X.heap[b]? = some (.cells cs T (0, 0))) (hs : ∀ s : ByteArray, (Value.string s) ∉ cs) (v : Value) : Err ev (X.setCell ⟨b, j, none⟩ v) := by
  obtain ⟨a, s, e1, e2, e3⟩ := h
  refine ⟨a, s, e1, (World.cell?_of_block (a := a) (Below.heap_setCell _ _ _ _ (fun e => ?_))).trans e2, e3⟩
  have e4 : X.heap[a.block]? = some (.cells cs T (0, 0)) := by rw [show a.block = b from e]; exact hb
  simp [World.cell?, e4] at e2
  exact hs s (Array.mem_of_getElem? e2.2)
set_option maxHeartbeats 8000000 in
set_option maxRecDepth 100000 in
theorem decPane_0 (r g : Nat) (l : List UInt8) (i : Nat) (x : UInt8) (w : World) (h : Rd r g l i w) (hx : l[i]? = some x) (hf : x.toNat / 16 = 0) :
    Calls Tryz.prog 85 #[rdI r] w fun e w' => e = .returned (.tuple #[.agg #[.int .u8 (x.toNat / 4 % 4 : Nat), .bool (x.toNat % 2 = 1), .bool (x.toNat / 2 % 2 = 1), .int .i64 0, .int .i64 0], .nilIface]) ∧ w.grownBy w' (some r) ∧ Rd r g l (i + 1) w' := by
  have HC := Lib.hid (pane_head r g l i x w h hx)
  obtain ⟨n, hn⟩ : ∃ n, Hid (x.toNat = n) := ⟨_, Lib.hid rfl⟩
  have hn256 : n < 256 := by have := x.toNat_lt; have := hn.out; omega
  rw [hn.out] at HC hf ⊢
  have qa := and15 n hn256
  obtain ⟨m, hm⟩ : ∃ m, Hid (n % 16 = m) := ⟨_, Lib.hid rfl⟩
  rw [hm.out] at qa
  have q4 : (n : Int) / 16 = 0 := by omega
  have HN := Lib.hid (newPane_any m (by have := hm.out; omega))
  obtain ⟨y, hy⟩ : ∃ y, Hid (m / 4 % 4 = y) := ⟨_, Lib.hid rfl⟩
  obtain ⟨f, hf'⟩ : ∃ f, Hid (decide (m % 2 = 1) = f) := ⟨_, Lib.hid rfl⟩
  obtain ⟨la, hla⟩ : ∃ la, Hid (decide (m / 2 % 2 = 1) = la) := ⟨_, Lib.hid rfl⟩
  rw [hy.out, hf'.out, hla.out] at HN
  have ey : n / 4 % 4 = y := by have := hm.out; have := hy.out; omega
  rw [ey, show (decide (n % 2 = 1)) = f by rw [← hf'.out]; apply decide_eq_decide.2; have := hm.out; omega, show (decide (n / 2 % 2 = 1)) = la by rw [← hla.out]; apply decide_eq_decide.2; have := hm.out; omega]
  have HL := Lib.hid (And.intro h.lt h.ltg)
  clear h hx hf hn256 ey
  go_enter Tryz.func85, Tryz.ntmps85
  go_wp2_with (first
    | (go_at_call 106; go_loud (refine HC.out.mono ?_; rintro e_ w1 ⟨rfl, h1, x0, h3, h4, h5⟩; have H1 := Lib.hid (And.intro h1 (And.intro h3 (And.intro h4 h5))); have X0 := Lib.hid x0; clear h1 h3 h4 h5))
    | (go_at_call 62; go_loud (refine (HN.out w1).mono ?_; rintro e_ w2 ⟨rfl, hb⟩; have z0 := (hb.cell (p := ⟨w.heap.size + 1, 0, none⟩) (by have := H1.out.2.2.2; show w.heap.size + 1 < w1.heap.size; omega)).trans X0.out; have hz : w.heap.size + 1 < w2.heap.size := (by have := hb.size; have := H1.out.2.2.2; omega); have Z2 := Lib.hid ((hb.block _ (blk_lt H1.out.2.1)).trans H1.out.2.1); have hz0 : w.heap.size < w2.heap.size := (by omega); obtain ⟨p0, p1, p2, p3, p4⟩ := laid5 Z2.out; obtain ⟨o0, o1, o2, o3, o4⟩ := open5 Z2.out; have H2 := Lib.hid (And.intro (grown_lower H1.out.2.2.1 hb) (H1.out.1.below hb)); clear hb)))
  have hF := pane_set (w := w) Z2.out (Nat.le_refl _) H2.out.1 H2.out.2 HL.out.1 HL.out.2 (.int .u8 y) (.bool f) (.bool la) (.int .i64 0) (.int .i64 0)
  have HF := Lib.hid (And.intro ((Below.heap_alloc _ (.cells #[.int .u8 y, .bool f, .bool la, .int .i64 0, .int .i64 0] 119) _ (blk_lt hF.1)).trans hF.1) (And.intro (grown_alloc hF.2.1 (.cells #[.int .u8 y, .bool f, .bool la, .int .i64 0, .int .i64 0] 119)) (hF.2.2.alloc (.cells #[.int .u8 y, .bool f, .bool la, .int .i64 0, .int .i64 0] 119))))
  clear p0 p1 p2 p3 p4 o0 o1 o2 o3 o4 z0 x0 hF
  generalize (((((w2.setCell ⟨w.heap.size, 0, none⟩ (.int .u8 y)).setCell ⟨w.heap.size, 1, none⟩ (.bool f)).setCell ⟨w.heap.size, 2, none⟩ (.bool la)).setCell ⟨w.heap.size, 3, none⟩ (.int .i64 0)).setCell ⟨w.heap.size, 4, none⟩ (.int .i64 0)).alloc (.cells #[.int .u8 y, .bool f, .bool la, .int .i64 0, .int .i64 0] 119) = X at HF ⊢
  obtain ⟨c0, c1, c2, c3, c4⟩ := laid5 HF.out.1
  exact bodyPost_ret (v := .tuple #[.agg #[.int .u8 y, .bool f, .bool la, .int .i64 0, .int .i64 0], .nilIface]) (by simp [results, Tryz.results85, go_sem, c0, c1, c2, c3, c4]; try rfl) rfl ⟨rfl, HF.out.2.1, HF.out.2.2⟩
set_option maxHeartbeats 8000000 in
set_option maxRecDepth 100000 in
theorem decPane_1z (r g : Nat) (l : List UInt8) (i : Nat) (x : UInt8) (w : World) (h : Rd r g l i w) (hx : l[i]? = some x) (hf : x.toNat / 16 = 1) (hy0 : x.toNat / 4 % 4 = 0) (B : Nat) (pe pl : Addr) (he : Env B pe pl w) (hBr : B ≤ r) (hB : B ≤ w.heap.size) (v k : Nat) (hv : vrd 0 0 (l.drop (i + 1)) = some (v, k)) :
    Calls Tryz.prog 85 #[rdI r] w fun e w' => e = .returned (.tuple #[.agg #[.int .u8 (x.toNat / 4 % 4 : Nat), .bool (x.toNat % 2 = 1), .bool (x.toNat / 2 % 2 = 1), .int .i64 (wrap64 (v : Nat)), .int .i64 (-1)], .nilIface]) ∧ w.grownBy w' (some r) ∧ Rd r g l (i + 1 + k) w' := by
  have HC := Lib.hid (pane_head r g l i x w h hx)
  obtain ⟨n, hn⟩ : ∃ n, Hid (x.toNat = n) := ⟨_, Lib.hid rfl⟩
  have hn256 : n < 256 := by have := x.toNat_lt; have := hn.out; omega
  rw [hn.out] at HC hf hy0 ⊢
  have qa := and15 n hn256
  obtain ⟨m, hm⟩ : ∃ m, Hid (n % 16 = m) := ⟨_, Lib.hid rfl⟩
  rw [hm.out] at qa
  have q4 : (n : Int) / 16 = 1 := by omega
  have HN := Lib.hid (newPane_any m (by have := hm.out; omega))
  obtain ⟨y, hy⟩ : ∃ y, Hid (m / 4 % 4 = y) := ⟨_, Lib.hid rfl⟩
  obtain ⟨f, hf'⟩ : ∃ f, Hid (decide (m % 2 = 1) = f) := ⟨_, Lib.hid rfl⟩
  obtain ⟨la, hla⟩ : ∃ la, Hid (decide (m / 2 % 2 = 1) = la) := ⟨_, Lib.hid rfl⟩
  rw [hy.out, hf'.out, hla.out] at HN
  have ey : n / 4 % 4 = y := by have := hm.out; have := hy.out; omega
  rw [ey, show (decide (n % 2 = 1)) = f by rw [← hf'.out]; apply decide_eq_decide.2; have := hm.out; omega, show (decide (n / 2 % 2 = 1)) = la by rw [← hla.out]; apply decide_eq_decide.2; have := hm.out; omega]
  have HL := Lib.hid (And.intro h.lt h.ltg)
  rw [ey] at hy0
  have qy : ((y : Int) == 0) = true := by rw [hy0]; rfl
  have HE := Lib.hid (And.intro he (And.intro hB hBr))
  have HV := Lib.hid hv
  obtain ⟨V, hV⟩ : ∃ V, Hid (wrap64 ((v : Nat) : Int) = V) := ⟨_, Lib.hid rfl⟩
  rw [hV.out]
  clear h hx hf hn256 ey hv he hBr hB hy0
  go_enter Tryz.func85, Tryz.ntmps85
  go_wp2_with (first
    | (go_at_call 106; go_loud (refine HC.out.mono ?_; rintro e_ w1 ⟨rfl, h1, x0, h3, h4, h5⟩; have H1 := Lib.hid (And.intro h1 (And.intro h3 (And.intro h4 h5))); have X0 := Lib.hid x0; clear h1 h3 h4 h5))
    | (go_at_call 62; go_loud (refine (HN.out w1).mono ?_; rintro e_ w2 ⟨rfl, hb⟩; have z0 := (hb.cell (p := ⟨w.heap.size + 1, 0, none⟩) (by have := H1.out.2.2.2; show w.heap.size + 1 < w1.heap.size; omega)).trans X0.out; have hz : w.heap.size + 1 < w2.heap.size := (by have := hb.size; have := H1.out.2.2.2; omega); have Z2 := Lib.hid ((hb.block _ (blk_lt H1.out.2.1)).trans H1.out.2.1); have hz0 : w.heap.size < w2.heap.size := (by omega);  have H2 := Lib.hid (And.intro (grown_lower H1.out.2.2.1 hb) (H1.out.1.below hb)); clear hb))
    | (go_at_call 91; go_loud (refine (decVarI_ok B pe pl r g l (i + 1) v k _ (H2.out.2.alloc _) (HE.out.1.below (grown_below (grown_alloc H2.out.1 _) HE.out.2.1 HE.out.2.2)) HE.out.2.2 HV.out).mono ?_; rw [hV.out]; rintro e_ w3 ⟨rfl, hg3, hr3⟩; have Z3 := Lib.hid ((hg3.block _ (by rw [World.size_alloc]; omega) (by intro e; cases e; have := HL.out.1; omega)).trans ((Below.heap_alloc _ _ _ hz0).trans Z2.out)); have Y3 := Lib.hid ((hg3.block _ (by rw [World.size_alloc]; omega) (by intro e; cases e; have := HL.out.1; omega)).trans (heap_alloc_new w2 _)); obtain ⟨p0, p1, p2, p3, p4⟩ := laid5 Z3.out; obtain ⟨o0, o1, o2, o3, o4⟩ := open5 Z3.out; obtain ⟨s0, s1, s2, s3, s4⟩ := laid5 Y3.out; obtain ⟨t0, t1, t2, t3, t4⟩ := open5 Y3.out; have hne1 : w.heap.size ≠ w2.heap.size := (by omega); have hne2 : w2.heap.size ≠ w.heap.size := (by omega); have H3 := Lib.hid (And.intro (grown_trans (grown_alloc H2.out.1 _) hg3) hr3); clear hg3 hr3)))
  have HF := Lib.hid (pane_set (w := w) (X := ((w3.setCell ⟨w2.heap.size, 3, none⟩ (.int .i64 V)).setCell ⟨w2.heap.size, 4, none⟩ (.int .i64 (-1)))) ((Below.heap_setCell _ _ _ _ (by show w.heap.size ≠ w2.heap.size; omega)).trans ((Below.heap_setCell _ _ _ _ (by show w.heap.size ≠ w2.heap.size; omega)).trans Z3.out)) (Nat.le_refl _) (grown_setge (grown_setge H3.out.1 (by show w.heap.size ≤ w2.heap.size; omega) _) (by show w.heap.size ≤ w2.heap.size; omega) _) ((H3.out.2.set _ _ (by have := HL.out.1; show w2.heap.size ≠ r; omega) (by have := HL.out.2; show w2.heap.size ≠ g; omega)).set _ _ (by have := HL.out.1; show w2.heap.size ≠ r; omega) (by have := HL.out.2; show w2.heap.size ≠ g; omega)) HL.out.1 HL.out.2 (.int .u8 y) (.bool f) (.bool la) (.int .i64 V) (.int .i64 (-1)))
  clear p0 p1 p2 p3 p4 o0 o1 o2 o3 o4 s0 s1 s2 s3 s4 t0 t1 t2 t3 t4 z0 x0
  generalize (((((((w3.setCell ⟨w2.heap.size, 3, none⟩ (.int .i64 V)).setCell ⟨w2.heap.size, 4, none⟩ (.int .i64 (-1))).setCell ⟨w.heap.size, 0, none⟩ (.int .u8 y)).setCell ⟨w.heap.size, 1, none⟩ (.bool f)).setCell ⟨w.heap.size, 2, none⟩ (.bool la)).setCell ⟨w.heap.size, 3, none⟩ (.int .i64 V)).setCell ⟨w.heap.size, 4, none⟩ (.int .i64 (-1))) = X at HF ⊢
  obtain ⟨c0, c1, c2, c3, c4⟩ := laid5 HF.out.1
  exact bodyPost_ret (v := .tuple #[.agg #[.int .u8 y, .bool f, .bool la, .int .i64 V, .int .i64 (-1)], .nilIface]) (by simp [results, Tryz.results85, go_sem, c0, c1, c2, c3, c4]; try rfl) rfl ⟨rfl, HF.out.2.1, HF.out.2.2⟩
set_option maxHeartbeats 8000000 in
set_option maxRecDepth 100000 in
theorem decPane_1 (r g : Nat) (l : List UInt8) (i : Nat) (x : UInt8) (w : World) (h : Rd r g l i w) (hx : l[i]? = some x) (hf : x.toNat / 16 = 1) (hy0 : x.toNat / 4 % 4 ≠ 0) (B : Nat) (pe pl : Addr) (he : Env B pe pl w) (hBr : B ≤ r) (hB : B ≤ w.heap.size) (v k : Nat) (hv : vrd 0 0 (l.drop (i + 1)) = some (v, k)) :
    Calls Tryz.prog 85 #[rdI r] w fun e w' => e = .returned (.tuple #[.agg #[.int .u8 (x.toNat / 4 % 4 : Nat), .bool (x.toNat % 2 = 1), .bool (x.toNat / 2 % 2 = 1), .int .i64 (wrap64 (v : Nat)), .int .i64 (wrap64 (v : Nat))], .nilIface]) ∧ w.grownBy w' (some r) ∧ Rd r g l (i + 1 + k) w' := by
  have HC := Lib.hid (pane_head r g l i x w h hx)
  obtain ⟨n, hn⟩ : ∃ n, Hid (x.toNat = n) := ⟨_, Lib.hid rfl⟩
  have hn256 : n < 256 := by have := x.toNat_lt; have := hn.out; omega
  rw [hn.out] at HC hf hy0 ⊢
  have qa := and15 n hn256
  obtain ⟨m, hm⟩ : ∃ m, Hid (n % 16 = m) := ⟨_, Lib.hid rfl⟩
  rw [hm.out] at qa
  have q4 : (n : Int) / 16 = 1 := by omega
  have HN := Lib.hid (newPane_any m (by have := hm.out; omega))
  obtain ⟨y, hy⟩ : ∃ y, Hid (m / 4 % 4 = y) := ⟨_, Lib.hid rfl⟩
  obtain ⟨f, hf'⟩ : ∃ f, Hid (decide (m % 2 = 1) = f) := ⟨_, Lib.hid rfl⟩
  obtain ⟨la, hla⟩ : ∃ la, Hid (decide (m / 2 % 2 = 1) = la) := ⟨_, Lib.hid rfl⟩
  rw [hy.out, hf'.out, hla.out] at HN
  have ey : n / 4 % 4 = y := by have := hm.out; have := hy.out; omega
  rw [ey, show (decide (n % 2 = 1)) = f by rw [← hf'.out]; apply decide_eq_decide.2; have := hm.out; omega, show (decide (n / 2 % 2 = 1)) = la by rw [← hla.out]; apply decide_eq_decide.2; have := hm.out; omega]
  have HL := Lib.hid (And.intro h.lt h.ltg)
  rw [ey] at hy0
  have qy : ((y : Int) == 0) = false := beq_eq_false_iff_ne.2 (by omega)
  have HE := Lib.hid (And.intro he (And.intro hB hBr))
  have HV := Lib.hid hv
  obtain ⟨V, hV⟩ : ∃ V, Hid (wrap64 ((v : Nat) : Int) = V) := ⟨_, Lib.hid rfl⟩
  rw [hV.out]
  clear h hx hf hn256 ey hv he hBr hB hy0
  go_enter Tryz.func85, Tryz.ntmps85
  go_wp2_with (first
    | (go_at_call 106; go_loud (refine HC.out.mono ?_; rintro e_ w1 ⟨rfl, h1, x0, h3, h4, h5⟩; have H1 := Lib.hid (And.intro h1 (And.intro h3 (And.intro h4 h5))); have X0 := Lib.hid x0; clear h1 h3 h4 h5))
    | (go_at_call 62; go_loud (refine (HN.out w1).mono ?_; rintro e_ w2 ⟨rfl, hb⟩; have z0 := (hb.cell (p := ⟨w.heap.size + 1, 0, none⟩) (by have := H1.out.2.2.2; show w.heap.size + 1 < w1.heap.size; omega)).trans X0.out; have hz : w.heap.size + 1 < w2.heap.size := (by have := hb.size; have := H1.out.2.2.2; omega); have Z2 := Lib.hid ((hb.block _ (blk_lt H1.out.2.1)).trans H1.out.2.1); have hz0 : w.heap.size < w2.heap.size := (by omega);  have H2 := Lib.hid (And.intro (grown_lower H1.out.2.2.1 hb) (H1.out.1.below hb)); clear hb))
    | (go_at_call 91; go_loud (refine (decVarI_ok B pe pl r g l (i + 1) v k _ (H2.out.2.alloc _) (HE.out.1.below (grown_below (grown_alloc H2.out.1 _) HE.out.2.1 HE.out.2.2)) HE.out.2.2 HV.out).mono ?_; rw [hV.out]; rintro e_ w3 ⟨rfl, hg3, hr3⟩; have Z3 := Lib.hid ((hg3.block _ (by rw [World.size_alloc]; omega) (by intro e; cases e; have := HL.out.1; omega)).trans ((Below.heap_alloc _ _ _ hz0).trans Z2.out)); have Y3 := Lib.hid ((hg3.block _ (by rw [World.size_alloc]; omega) (by intro e; cases e; have := HL.out.1; omega)).trans (heap_alloc_new w2 _)); obtain ⟨p0, p1, p2, p3, p4⟩ := laid5 Z3.out; obtain ⟨o0, o1, o2, o3, o4⟩ := open5 Z3.out; obtain ⟨s0, s1, s2, s3, s4⟩ := laid5 Y3.out; obtain ⟨t0, t1, t2, t3, t4⟩ := open5 Y3.out; have hne1 : w.heap.size ≠ w2.heap.size := (by omega); have hne2 : w2.heap.size ≠ w.heap.size := (by omega); have H3 := Lib.hid (And.intro (grown_trans (grown_alloc H2.out.1 _) hg3) hr3); clear hg3 hr3)))
  have HF := Lib.hid (pane_set (w := w) (X := ((w3.setCell ⟨w2.heap.size, 3, none⟩ (.int .i64 V)).setCell ⟨w2.heap.size, 4, none⟩ (.int .i64 V))) ((Below.heap_setCell _ _ _ _ (by show w.heap.size ≠ w2.heap.size; omega)).trans ((Below.heap_setCell _ _ _ _ (by show w.heap.size ≠ w2.heap.size; omega)).trans Z3.out)) (Nat.le_refl _) (grown_setge (grown_setge H3.out.1 (by show w.heap.size ≤ w2.heap.size; omega) _) (by show w.heap.size ≤ w2.heap.size; omega) _) ((H3.out.2.set _ _ (by have := HL.out.1; show w2.heap.size ≠ r; omega) (by have := HL.out.2; show w2.heap.size ≠ g; omega)).set _ _ (by have := HL.out.1; show w2.heap.size ≠ r; omega) (by have := HL.out.2; show w2.heap.size ≠ g; omega)) HL.out.1 HL.out.2 (.int .u8 y) (.bool f) (.bool la) (.int .i64 V) (.int .i64 V))
  clear p0 p1 p2 p3 p4 o0 o1 o2 o3 o4 s0 s1 s2 s3 s4 t0 t1 t2 t3 t4 z0 x0
  generalize (((((((w3.setCell ⟨w2.heap.size, 3, none⟩ (.int .i64 V)).setCell ⟨w2.heap.size, 4, none⟩ (.int .i64 V)).setCell ⟨w.heap.size, 0, none⟩ (.int .u8 y)).setCell ⟨w.heap.size, 1, none⟩ (.bool f)).setCell ⟨w.heap.size, 2, none⟩ (.bool la)).setCell ⟨w.heap.size, 3, none⟩ (.int .i64 V)).setCell ⟨w.heap.size, 4, none⟩ (.int .i64 V)) = X at HF ⊢
  obtain ⟨c0, c1, c2, c3, c4⟩ := laid5 HF.out.1
  exact bodyPost_ret (v := .tuple #[.agg #[.int .u8 y, .bool f, .bool la, .int .i64 V, .int .i64 V], .nilIface]) (by simp [results, Tryz.results85, go_sem, c0, c1, c2, c3, c4]; try rfl) rfl ⟨rfl, HF.out.2.1, HF.out.2.2⟩
set_option maxHeartbeats 8000000 in
set_option maxRecDepth 100000 in
theorem decPane_2 (r g : Nat) (l : List UInt8) (i : Nat) (x : UInt8) (w : World) (h : Rd r g l i w) (hx : l[i]? = some x) (hf : x.toNat / 16 = 2) (B : Nat) (pe pl : Addr) (he : Env B pe pl w) (hBr : B ≤ r) (hB : B ≤ w.heap.size) (v k v2 k2 : Nat) (hv : vrd 0 0 (l.drop (i + 1)) = some (v, k)) (hv2 : vrd 0 0 (l.drop (i + 1 + k)) = some (v2, k2)) :
    Calls Tryz.prog 85 #[rdI r] w fun e w' => e = .returned (.tuple #[.agg #[.int .u8 (x.toNat / 4 % 4 : Nat), .bool (x.toNat % 2 = 1), .bool (x.toNat / 2 % 2 = 1), .int .i64 (wrap64 (v : Nat)), .int .i64 (wrap64 (v2 : Nat))], .nilIface]) ∧ w.grownBy w' (some r) ∧ Rd r g l (i + 1 + k + k2) w' := by
  have HC := Lib.hid (pane_head r g l i x w h hx)
  obtain ⟨n, hn⟩ : ∃ n, Hid (x.toNat = n) := ⟨_, Lib.hid rfl⟩
  have hn256 : n < 256 := by have := x.toNat_lt; have := hn.out; omega
  rw [hn.out] at HC hf ⊢
  have qa := and15 n hn256
  obtain ⟨m, hm⟩ : ∃ m, Hid (n % 16 = m) := ⟨_, Lib.hid rfl⟩
  rw [hm.out] at qa
  have q4 : (n : Int) / 16 = 2 := by omega
  have HN := Lib.hid (newPane_any m (by have := hm.out; omega))
  obtain ⟨y, hy⟩ : ∃ y, Hid (m / 4 % 4 = y) := ⟨_, Lib.hid rfl⟩
  obtain ⟨f, hf'⟩ : ∃ f, Hid (decide (m % 2 = 1) = f) := ⟨_, Lib.hid rfl⟩
  obtain ⟨la, hla⟩ : ∃ la, Hid (decide (m / 2 % 2 = 1) = la) := ⟨_, Lib.hid rfl⟩
  rw [hy.out, hf'.out, hla.out] at HN
  have ey : n / 4 % 4 = y := by have := hm.out; have := hy.out; omega
  rw [ey, show (decide (n % 2 = 1)) = f by rw [← hf'.out]; apply decide_eq_decide.2; have := hm.out; omega, show (decide (n / 2 % 2 = 1)) = la by rw [← hla.out]; apply decide_eq_decide.2; have := hm.out; omega]
  have HL := Lib.hid (And.intro h.lt h.ltg)
  have HE := Lib.hid (And.intro he (And.intro hB hBr))
  have HV := Lib.hid hv
  have HV2 := Lib.hid hv2
  obtain ⟨V, hV⟩ : ∃ V, Hid (wrap64 ((v : Nat) : Int) = V) := ⟨_, Lib.hid rfl⟩
  obtain ⟨V2, hV2⟩ : ∃ V2, Hid (wrap64 ((v2 : Nat) : Int) = V2) := ⟨_, Lib.hid rfl⟩
  rw [hV.out, hV2.out]
  clear h hx hf hn256 ey hv hv2 he hBr hB
  go_enter Tryz.func85, Tryz.ntmps85
  go_wp2_with (first
    | (go_at_call 106; go_loud (refine HC.out.mono ?_; rintro e_ w1 ⟨rfl, h1, x0, h3, h4, h5⟩; have H1 := Lib.hid (And.intro h1 (And.intro h3 (And.intro h4 h5))); have X0 := Lib.hid x0; clear h1 h3 h4 h5))
    | (go_at_call 62; go_loud (refine (HN.out w1).mono ?_; rintro e_ w2 ⟨rfl, hb⟩; have z0 := (hb.cell (p := ⟨w.heap.size + 1, 0, none⟩) (by have := H1.out.2.2.2; show w.heap.size + 1 < w1.heap.size; omega)).trans X0.out; have hz : w.heap.size + 1 < w2.heap.size := (by have := hb.size; have := H1.out.2.2.2; omega); have Z2 := Lib.hid ((hb.block _ (blk_lt H1.out.2.1)).trans H1.out.2.1); have hz0 : w.heap.size < w2.heap.size := (by omega);  have H2 := Lib.hid (And.intro (grown_lower H1.out.2.2.1 hb) (H1.out.1.below hb)); clear hb))
    | (go_at_call 91; ((with_reducible refine (decVarI_ok B pe pl r g l (i + 1) v k _ (H2.out.2.alloc _) (HE.out.1.below (grown_below (grown_alloc H2.out.1 _) HE.out.2.1 HE.out.2.2)) HE.out.2.2 HV.out).mono ?_); rw [hV.out]; rintro e_ w3 ⟨rfl, hg3, hr3⟩; have Z3 := Lib.hid ((hg3.block _ (by rw [World.size_alloc]; omega) (by intro e; cases e; have := HL.out.1; omega)).trans ((Below.heap_alloc _ _ _ hz0).trans Z2.out)); have Y3 := Lib.hid ((hg3.block _ (by rw [World.size_alloc]; omega) (by intro e; cases e; have := HL.out.1; omega)).trans (heap_alloc_new w2 _)); obtain ⟨s0, s1, s2, s3, s4⟩ := laid5 Y3.out; obtain ⟨t0, t1, t2, t3, t4⟩ := open5 Y3.out; have hne1 : w.heap.size ≠ w2.heap.size := (by omega); have hne2 : w2.heap.size ≠ w.heap.size := (by omega); have hsz3 := hg3.size; have H3 := Lib.hid (And.intro (grown_trans (grown_alloc H2.out.1 _) hg3) (And.intro hr3 hsz3)); clear hg3 hr3 hsz3))
    | (go_at_call 91; ((with_reducible refine (decVarI_ok B pe pl r g l (i + 1 + k) v2 k2 (w3.setCell ⟨w2.heap.size, 3, none⟩ (.int .i64 V)) (H3.out.2.1.set _ _ (by have := HL.out.1; show w2.heap.size ≠ r; omega) (by have := HL.out.2; show w2.heap.size ≠ g; omega)) (HE.out.1.below (grown_below (grown_setge H3.out.1 (by show w.heap.size ≤ w2.heap.size; omega) _) HE.out.2.1 HE.out.2.2)) HE.out.2.2 HV2.out).mono ?_); rw [hV2.out]; rintro e_ w4 ⟨rfl, hg4, hr4⟩; have Z4 := Lib.hid ((hg4.block _ (by rw [World.size_setCell]; exact blk_lt Z3.out) (by intro e; cases e; have := HL.out.1; omega)).trans ((Below.heap_setCell _ _ _ _ (by show w.heap.size ≠ w2.heap.size; omega)).trans Z3.out)); have Y4 := Lib.hid ((hg4.block _ (by rw [World.size_setCell]; exact blk_lt Y3.out) (by intro e; cases e; have := HL.out.1; omega)).trans ((Lib.heap_setCell_same (i := 3) Y3.out (.int .i64 V)).trans rfl)); clear s0 s1 s2 s3 s4 t0 t1 t2 t3 t4; obtain ⟨s0, s1, s2, s3, s4⟩ := laid5 Y4.out; obtain ⟨t0, t1, t2, t3, t4⟩ := open5 Y4.out; obtain ⟨p0, p1, p2, p3, p4⟩ := laid5 Z4.out; obtain ⟨o0, o1, o2, o3, o4⟩ := open5 Z4.out; have H4 := Lib.hid (And.intro (grown_trans (grown_setge H3.out.1 (by show w.heap.size ≤ w2.heap.size; omega) _) hg4) hr4); clear hg4 hr4)))
  have HF := Lib.hid (pane_set (w := w) (X := (w4.setCell ⟨w2.heap.size, 4, none⟩ (.int .i64 V2))) ((Below.heap_setCell _ _ _ _ (by show w.heap.size ≠ w2.heap.size; omega)).trans Z4.out) (Nat.le_refl _) (grown_setge H4.out.1 (by show w.heap.size ≤ w2.heap.size; omega) _) (H4.out.2.set _ _ (by have := HL.out.1; show w2.heap.size ≠ r; omega) (by have := HL.out.2; show w2.heap.size ≠ g; omega)) HL.out.1 HL.out.2 (.int .u8 y) (.bool f) (.bool la) (.int .i64 V) (.int .i64 V2))
  clear p0 p1 p2 p3 p4 o0 o1 o2 o3 o4 s0 s1 s2 s3 s4 t0 t1 t2 t3 t4 z0 x0
  generalize ((((((w4.setCell ⟨w2.heap.size, 4, none⟩ (.int .i64 V2)).setCell ⟨w.heap.size, 0, none⟩ (.int .u8 y)).setCell ⟨w.heap.size, 1, none⟩ (.bool f)).setCell ⟨w.heap.size, 2, none⟩ (.bool la)).setCell ⟨w.heap.size, 3, none⟩ (.int .i64 V)).setCell ⟨w.heap.size, 4, none⟩ (.int .i64 V2)) = X at HF ⊢
  obtain ⟨c0, c1, c2, c3, c4⟩ := laid5 HF.out.1
  exact bodyPost_ret (v := .tuple #[.agg #[.int .u8 y, .bool f, .bool la, .int .i64 V, .int .i64 V2], .nilIface]) (by simp [results, Tryz.results85, go_sem, c0, c1, c2, c3, c4]; try rfl) rfl ⟨rfl, HF.out.2.1, HF.out.2.2⟩
end Go.Proofs.YtgdbeiadlgkedaaGreatDoor
namespace Go.Proofs.YtgdbeiadlgkedaaGreatDoorW.PrintLast
open Go.Proofs.YtgdbeiadlgkedaaGreatDoorW.PrintWords (Aside0)
def needsOf (md : Region.Mode) (o : Oper) : List Nat := (o.after.toList.filter (fun e => Region.binds md e)).map (fun e => e.on)
def clashOf (md : Region.Mode) (ops : Array Oper) (i : Nat) (oi : Oper) : List Nat := (List.range ops.size).filter fun j => !(j == i) && match ops[j]? with
  | some oj => !(oj.after.any (fun e => Region.binds md e && e.on == i) || oi.apart ops oj)
  | none => false
def rtab (md : Region.Mode) (ops : Array Oper) : Bool × List (List Nat × List Nat) := (Region.noSelect ops, (List.range ops.size).map fun i => match ops[i]? with
  | some o => (needsOf md o, clashOf md ops i o)
  | none => ([], []))
def readyAt (T : List (List Nat × List Nat)) (l : List Bool) (i : Nat) : Bool := !l.getD i true && match T[i]? with
  | some r => r.1.all (fun j => l.getD j false)
  | none => false
def readyT (T : List (List Nat × List Nat)) (l : List Bool) : List Nat := (List.range T.length).filter (readyAt T l)
def freeT (T : List (List Nat × List Nat)) (l : List Bool) (i : Nat) : Bool := match T[i]? with
  | some r => r.2.all (fun j => l.getD j true)
  | none => false
def closedT (T : List (List Nat × List Nat)) (l : List Bool) : Bool := (List.range T.length).all fun j => !l.getD j false || match T[j]? with
  | some r => r.1.all (fun k => l.getD k false)
  | none => true
def reachT (T : List (List Nat × List Nat)) (i : Nat) : Nat → Nat → Bool
  | 0, _ => false
  | fuel + 1, d => match T[d]? with
    | some r => r.1.any fun j => j == i || reachT T i fuel j
    | none => false
def lastT (T : List (List Nat × List Nat)) (l : List Bool) (ds : List Nat) (i : Nat) : Bool := ds.all fun d => l.getD d true || reachT T i T.length d
section
variable {md : Region.Mode} {ops : Array Oper} {T : Bool × List (List Nat × List Nat)} {l l' li lj lk : Array Bool} {ds : List Nat} {i j k : Nat}
theorem gd (l : Array Bool) (j : Nat) (b : Bool) : l.getD j b = l.toList.getD j b := by simp [Array.getD_eq_getD_getElem?, List.getD_eq_getElem?_getD]
theorem needs_all (o : Oper) (p : Nat → Bool) : o.after.all (fun e => !Region.binds md e || p e.on) = (needsOf md o).all p := by
  unfold needsOf
  rw [← Array.all_toList]
  induction o.after.toList with
  | nil => rfl
  | cons e r ih =>
    rw [List.all_cons, ih, List.filter_cons]
    cases h : Region.binds md e <;> simp
theorem needs_any (o : Oper) (p : Nat → Bool) : o.after.any (fun e => Region.binds md e && p e.on) = (needsOf md o).any p := by
  unfold needsOf
  rw [← Array.any_toList]
  induction o.after.toList with
  | nil => rfl
  | cons e r ih =>
    rw [List.any_cons, ih, List.filter_cons]
    cases h : Region.binds md e <;> simp
theorem rtab_length : (rtab md ops).2.length = ops.size := by simp [rtab]
theorem rtab_some {o : Oper} (h : ops[i]? = some o) : (rtab md ops).2[i]? = some (needsOf md o, clashOf md ops i o) := by
  have hi := (Array.getElem?_eq_some_iff.1 h).1
  unfold rtab
  rw [List.getElem?_map, List.getElem?_range hi, Option.map_some, h]
theorem rtab_none (h : ops[i]? = none) : (rtab md ops).2[i]? = none := by
  have hi : ops.size ≤ i := Array.getElem?_eq_none_iff.1 h
  exact List.getElem?_eq_none (by rw [rtab_length]; exact hi)
theorem readyAt_eq : readyAt (rtab md ops).2 l.toList i = (!l.getD i true && ((ops[i]?).map (·.after.all fun e => !Region.binds md e || l.getD e.on false)).getD false) := by
  unfold readyAt
  rw [gd]
  cases h : ops[i]? with
  | none => rw [rtab_none h]; rfl
  | some o =>
    rw [rtab_some h]
    simp only [Option.map_some, Option.getD_some]
    rw [← needs_all]
    simp only [gd]
theorem ready_eq : Region.ready md ops l = readyT (rtab md ops).2 l.toList := by
  unfold Region.ready readyT
  rw [rtab_length]
  refine List.filter_congr (fun i _ => ?_)
  rw [readyAt_eq]
theorem free_eq : Region.free md ops l i = freeT (rtab md ops).2 l.toList i := by
  unfold Region.free freeT
  cases h : ops[i]? with
  | none => rw [rtab_none h]
  | some oi =>
    rw [rtab_some h]
    simp only [clashOf]
    rw [List.all_filter]
    congr 1
    funext j
    rw [gd]
    cases hj : ops[j]? with
    | none => cases (j == i) <;> cases (l.toList.getD j true) <;> simp
    | some oj =>
      cases (j == i) <;> cases (l.toList.getD j true) <;> cases (oj.after.any (fun e => Region.binds md e && e.on == i) || oi.apart ops oj) <;> simp_all
theorem closed_eq : Region.closedB md ops l = closedT (rtab md ops).2 l.toList := by
  unfold Region.closedB closedT
  rw [rtab_length]
  congr 1
  funext j
  rw [gd]
  cases h : ops[j]? with
  | none => rw [rtab_none h]
  | some o =>
    rw [rtab_some h]
    simp only
    rw [← needs_all]
    simp only [gd]
theorem reach_eq : ∀ (fuel d : Nat), Region.reachB md ops i fuel d = reachT (rtab md ops).2 i fuel d
  | 0, _ => rfl
  | fuel + 1, d => by
    unfold Region.reachB reachT
    cases h : ops[d]? with
    | none => rw [rtab_none h]
    | some o =>
      rw [rtab_some h]
      simp only
      rw [← needs_any]
      congr 1
      funext e
      rw [reach_eq fuel]
theorem last_eq : Region.lastB md ops l ds i = lastT (rtab md ops).2 l.toList ds i := by
  unfold Region.lastB lastT
  rw [rtab_length]
  congr 1
  funext d
  rw [gd, reach_eq]
theorem readyAt_mem (h : readyAt T.2 l.toList i = true) (hT : rtab md ops = T) : (Region.ready md ops l).contains i = true := by
  subst hT
  rw [ready_eq]
  unfold readyT
  rw [List.contains_iff_mem, List.mem_filter, List.mem_range]
  refine ⟨?_, h⟩
  unfold readyAt at h
  rw [Bool.and_eq_true] at h
  cases hq : (rtab md ops).2[i]? with
  | none => rw [hq] at h; simp at h
  | some r => exact (List.getElem?_eq_some_iff.1 hq).1
theorem set_of (h : (l.toList.set i true == l'.toList) = true) : (l.setIfInBounds i true == l') = true := by
  rw [beq_iff_eq] at h ⊢
  apply Array.ext'
  rw [Array.toList_setIfInBounds]
  exact h
def anyT (T : Bool × List (List Nat × List Nat)) (l l' : List Bool) (i : Nat) : Bool := T.1 && freeT T.2 l i && readyAt T.2 l i && (l.set i true == l')
theorem any_of (hT : rtab md ops = T) (h : anyT T l.toList l'.toList i = true) : anyB md ops l l' i = true := by
  simp only [anyT, Bool.and_eq_true] at h
  obtain ⟨⟨⟨h1, h2⟩, h3⟩, h4⟩ := h
  have h5 := readyAt_mem h3 hT
  have h6 := set_of h4
  subst hT
  simp only [anyB, Bool.and_eq_true]
  exact ⟨⟨⟨h1, by rw [free_eq]; exact h2⟩, h5⟩, h6⟩
def takeT (T : Bool × List (List Nat × List Nat)) (ds : List Nat) (l l' : List Bool) (i : Nat) : Bool := T.1 && freeT T.2 l i && readyAt T.2 l i && closedT T.2 l && lastT T.2 l ds i && (l.set i true == l')
theorem take_of (hT : rtab md ops = T) (h : takeT T ds l.toList l'.toList i = true) : takeB md ops ds l l' i = true := by
  simp only [takeT, Bool.and_eq_true] at h
  obtain ⟨⟨⟨⟨⟨h1, h2⟩, h3⟩, h4⟩, h5⟩, h6⟩ := h
  have h7 := readyAt_mem h3 hT
  have h8 := set_of h6
  subst hT
  simp only [takeB, Bool.and_eq_true]
  exact ⟨⟨⟨⟨⟨h1, by rw [free_eq]; exact h2⟩, h7⟩, by rw [closed_eq]; exact h4⟩, by rw [last_eq]; exact h5⟩, h8⟩
theorem one_of (hT : rtab md ops = T) (h : (readyT T.2 l.toList == [i] && l.toList.set i true == l'.toList) = true) : readyB md ops l l' i = true := by
  simp only [Bool.and_eq_true] at h
  obtain ⟨h1, h2⟩ := h
  subst hT
  simp only [readyB, Bool.and_eq_true]
  exact ⟨by rw [ready_eq]; exact h1, set_of h2⟩
theorem done_of (hT : rtab md ops = T) (h : (readyT T.2 l.toList == []) = true) : (Region.ready md ops l == []) = true := by
  subst hT
  rw [ready_eq]
  exact h
def upM (B : List Nat) (d : Nat) : List Nat → Nat
  | [] => 0
  | n :: r => (2 ^ n ||| (if n < d then B.getD n 0 else 0)) ||| upM B d r
def waitsOk (T : List (List Nat × List Nat)) (B : List Nat) : Bool := (List.range T.length).all fun d => match T[d]? with
  | some r => (B.getD d 0 ||| upM B d r.1) == upM B d r.1
  | none => false
theorem upM_bit {B : List Nat} {d i : Nat} : ∀ {ns : List Nat}, (upM B d ns).testBit i = true → ∃ n ∈ ns, n = i ∨ (n < d ∧ (B.getD n 0).testBit i = true)
  | [], h => by simp [upM] at h
  | n :: r, h => by
    unfold upM at h
    rw [Nat.testBit_or, Nat.testBit_or, Bool.or_eq_true, Bool.or_eq_true] at h
    rcases h with (h | h) | h
    · rw [Nat.testBit_two_pow] at h
      exact ⟨n, List.mem_cons_self, .inl (by simpa using h)⟩
    · by_cases hn : n < d
      · rw [if_pos hn] at h
        exact ⟨n, List.mem_cons_self, .inr ⟨hn, h⟩⟩
      · rw [if_neg hn] at h
        simp at h
    · obtain ⟨m, hm, h2⟩ := upM_bit h
      exact ⟨m, List.mem_cons_of_mem _ hm, h2⟩
theorem reach_bit {T : List (List Nat × List Nat)} {B : List Nat} (hB : waitsOk T B = true) : ∀ (fuel d : Nat), d < fuel → d < T.length → (B.getD d 0).testBit i = true → reachT T i fuel d = true
  | 0, d, h, _, _ => by omega
  | fuel + 1, d, h, hd, hb => by
    have h1 := List.all_eq_true.1 hB d (List.mem_range.2 hd)
    cases hr : T[d]? with
    | none => rw [hr] at h1; simp at h1
    | some r =>
      rw [hr] at h1
      simp only [beq_iff_eq] at h1
      have h2 : (upM B d r.1).testBit i = true := by rw [← h1, Nat.testBit_or, hb, Bool.true_or]
      obtain ⟨n, hn, h3⟩ := upM_bit h2
      unfold reachT
      rw [hr]
      simp only
      rw [List.any_eq_true]
      refine ⟨n, hn, ?_⟩
      rcases h3 with rfl | ⟨h4, h5⟩
      · simp
      · rw [reach_bit hB fuel n (by omega) (by omega) h5, Bool.or_true]
def lastW (T : List (List Nat × List Nat)) (B : List Nat) (l : List Bool) (ds : List Nat) (i : Nat) : Bool := ds.all fun d => l.getD d true || (decide (d < T.length) && (B.getD d 0).testBit i)
def takeW (T : Bool × List (List Nat × List Nat)) (B : List Nat) (ds : List Nat) (l l' : List Bool) (i : Nat) : Bool := T.1 && freeT T.2 l i && readyAt T.2 l i && closedT T.2 l && lastW T.2 B l ds i && (l.set i true == l')
theorem take_ofW {B : List Nat} (hT : rtab md ops = T) (hB : waitsOk T.2 B = true) (h : takeW T B ds l.toList l'.toList i = true) : takeB md ops ds l l' i = true := by
  refine take_of hT ?_
  simp only [takeW, takeT, Bool.and_eq_true] at h ⊢
  obtain ⟨⟨⟨⟨⟨h1, h2⟩, h3⟩, h4⟩, h5⟩, h6⟩ := h
  refine ⟨⟨⟨⟨⟨h1, h2⟩, h3⟩, h4⟩, ?_⟩, h6⟩
  unfold lastW at h5
  unfold lastT
  rw [List.all_eq_true] at h5 ⊢
  intro d hd
  have h7 := h5 d hd
  rw [Bool.or_eq_true, Bool.and_eq_true, decide_eq_true_eq] at h7
  rcases h7 with h7 | ⟨h8, h9⟩
  · rw [h7, Bool.true_or]
  · rw [reach_bit hB _ d h8 h8 h9, Bool.or_true]
theorem with_tabW {P : Program} {Q : Exit → Act → World → Prop} {S : World → Prop} {n : Nat} {a : Act} {w : World} {B : List Nat} (hT : rtab md ops = T) (hB : waitsOk T.2 B = true) (h : Aside0 (rtab md ops = T) → Aside0 (waitsOk T.2 B = true) → wpAnyLast P md ops Q S ds n l a w) : wpAnyLast P md ops Q S ds n l a w := h ⟨hT⟩ ⟨hB⟩
end
def opsIn : Code → Nat → Option (Array Oper)
  | .region id ops _, k => if id == k then some ops else none
  | .seq a b, k => match opsIn a k with
    | some o => some o
    | none => opsIn b k
  | .cond _ a b, k => match opsIn a k with
    | some o => some o
    | none => opsIn b k
  | .block _ c, k => opsIn c k
  | .loop c, k => opsIn c k
  | .scope c, k => opsIn c k
  | .rangeFunc _ _ a b, k => match opsIn a k with
    | some o => some o
    | none => opsIn b k
  | _, _ => none
def opsOf (f : Func) (k : Nat) : Array Oper := ((f.body.bind fun c => opsIn c k)).getD #[]
end Go.Proofs.YtgdbeiadlgkedaaGreatDoorW.PrintLast
namespace Go.Proofs.YtgdbeiadlgkedaaGreatDoorW.PrintWords
open Go.RowKit
section
variable {P : Program} {d : Nat} {xs ys : Array Value} {f : Field} {fs : List Field} {a b : Value} {r s : Bool} {w : World}
theorem eqf_last (hn : (f.name == "_") = false) (ha : (part f.type xs f.offset).run P w = .ok a w) (hb : (part f.type ys f.offset).run P w = .ok b w) (he : (Op.equalIn d f.type a b).run P w = .ok r w) : (Op.eqFields d xs ys [f]).run P w = .ok r w := by
  have hn' : f.name ≠ "_" := by simpa using hn
  simp only [Op.eqFields, if_pos hn', Sem.run_bind, ha, hb, he, Result.andThen_ok]
  cases r <;> simp
theorem eqf_cons (hn : (f.name == "_") = false) (ha : (part f.type xs f.offset).run P w = .ok a w) (hb : (part f.type ys f.offset).run P w = .ok b w) (he : (Op.equalIn d f.type a b).run P w = .ok r w) (hr : (Op.eqFields d xs ys fs).run P w = .ok s w) : (Op.eqFields d xs ys (f :: fs)).run P w = .ok (r && s) w := by
  have hn' : f.name ≠ "_" := by simpa using hn
  rw [Op.eqFields]
  simp only [if_pos hn', Sem.run_bind, ha, hb, he, Result.andThen_ok]
  cases r
  · simp
  · simpa using hr
theorem eqA_of {t : TypeId} {fs : Array Field} (hu : P.underlying t = some (.struct fs)) (hp : P.stoodInHeld t = false) (h : (Op.eqFields d xs ys fs.toList).run P w = .ok r w) : (Op.equalIn (d + 1) t (.agg xs) (.agg ys)).run P w = .ok r w := by
  have hf : P.fieldsOf t = fs := by simp [Program.fieldsOf, hu]
  rw [run_equalIn_struct (P := P) w d t xs ys (by rw [hf]; exact hu) hp, hf]
  exact h
end
end Go.Proofs.YtgdbeiadlgkedaaGreatDoorW.PrintWords
namespace Go.Proofs.YtgdbeiadlgkedaaGreatDoorW.PrintWords
theorem Reps.front {α : Type} {R : α → List Value → Prop} {size : Nat} {ps : List α} {cs c all : List Value} {p : α} (hp : R p c) (hc : c.length = size) (h : Reps R size ps cs) (ha : c ++ cs = all) : Reps R size (p :: ps) all := by
  subst ha
  refine ⟨by rw [List.length_append, hc, h.1, List.length_cons, Nat.succ_mul, Nat.add_comm], fun j q hq => ?_⟩
  cases j with
  | zero =>
    simp only [List.getElem?_cons_zero, Option.some.injEq] at hq
    subst hq
    rw [Nat.zero_mul, List.drop_zero, List.take_append_of_le_length (by omega), List.take_of_length_le (by omega)]
    exact hp
  | succ j =>
    simp only [List.getElem?_cons_succ] at hq
    have h1 := h.2 j q hq
    rw [Nat.succ_mul, List.drop_append, List.drop_of_length_le (by rw [hc]; exact Nat.le_add_left _ _), List.nil_append, hc, Nat.add_sub_cancel]
    exact h1
theorem Reps.c2 {α : Type} {R : α → List Value → Prop} {ps : List α} {cs : List Value} {p : α} {va vb : Value} (hp : R p [va, vb]) (h : Reps R 2 ps cs) : Reps R 2 (p :: ps) (va :: vb :: cs) := Reps.front hp rfl h rfl
theorem Reps.c3 {α : Type} {R : α → List Value → Prop} {ps : List α} {cs : List Value} {p : α} {va vb vc : Value} (hp : R p [va, vb, vc]) (h : Reps R 3 ps cs) : Reps R 3 (p :: ps) (va :: vb :: vc :: cs) := Reps.front hp rfl h rfl
theorem Reps.c4 {α : Type} {R : α → List Value → Prop} {ps : List α} {cs : List Value} {p : α} {va vb vc vd : Value} (hp : R p [va, vb, vc, vd]) (h : Reps R 4 ps cs) : Reps R 4 (p :: ps) (va :: vb :: vc :: vd :: cs) := Reps.front hp rfl h rfl
theorem Reps.c5 {α : Type} {R : α → List Value → Prop} {ps : List α} {cs : List Value} {p : α} {va vb vc vd ve : Value} (hp : R p [va, vb, vc, vd, ve]) (h : Reps R 5 ps cs) : Reps R 5 (p :: ps) (va :: vb :: vc :: vd :: ve :: cs) := Reps.front hp rfl h rfl
theorem Reps.c6 {α : Type} {R : α → List Value → Prop} {ps : List α} {cs : List Value} {p : α} {va vb vc vd ve vf : Value} (hp : R p [va, vb, vc, vd, ve, vf]) (h : Reps R 6 ps cs) : Reps R 6 (p :: ps) (va :: vb :: vc :: vd :: ve :: vf :: cs) := Reps.front hp rfl h rfl
theorem Reps.c7 {α : Type} {R : α → List Value → Prop} {ps : List α} {cs : List Value} {p : α} {va vb vc vd ve vf vg : Value} (hp : R p [va, vb, vc, vd, ve, vf, vg]) (h : Reps R 7 ps cs) : Reps R 7 (p :: ps) (va :: vb :: vc :: vd :: ve :: vf :: vg :: cs) := Reps.front hp rfl h rfl
theorem Reps.c8 {α : Type} {R : α → List Value → Prop} {ps : List α} {cs : List Value} {p : α} {va vb vc vd ve vf vg vh : Value} (hp : R p [va, vb, vc, vd, ve, vf, vg, vh]) (h : Reps R 8 ps cs) : Reps R 8 (p :: ps) (va :: vb :: vc :: vd :: ve :: vf :: vg :: vh :: cs) := Reps.front hp rfl h rfl
theorem Reps.c9 {α : Type} {R : α → List Value → Prop} {ps : List α} {cs : List Value} {p : α} {va vb vc vd ve vf vg vh vi : Value} (hp : R p [va, vb, vc, vd, ve, vf, vg, vh, vi]) (h : Reps R 9 ps cs) : Reps R 9 (p :: ps) (va :: vb :: vc :: vd :: ve :: vf :: vg :: vh :: vi :: cs) := Reps.front hp rfl h rfl
theorem Reps.c10 {α : Type} {R : α → List Value → Prop} {ps : List α} {cs : List Value} {p : α} {va vb vc vd ve vf vg vh vi vj : Value} (hp : R p [va, vb, vc, vd, ve, vf, vg, vh, vi, vj]) (h : Reps R 10 ps cs) : Reps R 10 (p :: ps) (va :: vb :: vc :: vd :: ve :: vf :: vg :: vh :: vi :: vj :: cs) := Reps.front hp rfl h rfl
end Go.Proofs.YtgdbeiadlgkedaaGreatDoorW.PrintWords
