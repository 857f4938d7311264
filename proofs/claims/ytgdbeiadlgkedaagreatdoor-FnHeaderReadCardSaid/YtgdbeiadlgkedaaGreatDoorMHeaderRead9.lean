/- Contracts and plain laws, several texts in one. -/
import Derived.Test.YtgdbeiadlgkedaaGreatDoorMHeaderRead3
import Derived.Test.YtgdbeiadlgkedaaGreatDoorMHeaderRead6
namespace Go.Proofs.YtgdbeiadlgkedaaGreatDoor
open Go.RowKit
set_option linter.unusedVariables false
set_option linter.unusedSimpArgs false
abbrev zP : Array Value := #[.int .u8 0, .bool false, .bool false, .int .i64 0, .int .i64 0]
theorem and15 (b : Nat) (h : b < 256) : bits .and .u8 (b : Int) 15 = ((b % 16 : Nat) : Int) := by
  have : ∀ b : Fin 256, bits .and .u8 ((b : Nat) : Int) 15 = (((b : Nat) % 16 : Nat) : Int) := by decide +kernel
  exact this ⟨b, h⟩
theorem pane_head (r g : Nat) (l : List UInt8) (i : Nat) (x : UInt8) (w : World) (h : Rd r g l i w) (hx : l[i]? = some x) :
    Calls Tryz.prog 106 #[rdI r, .slice (some ⟨w.heap.size + 1, 0, none⟩) 1 1] ((w.alloc (.cells zP 119)).alloc (.cells #[.int .u8 0] 225)) fun e w' => e = .returned .nilIface ∧ Rd r g l (i + 1) w' ∧ w'.cell? ⟨w.heap.size + 1, 0, none⟩ = some (.int .u8 x.toNat) ∧ w'.heap[w.heap.size]? = some (.cells zP 119 (0, 0)) ∧ w.grownBy w' (some r) ∧ w.heap.size + 2 ≤ w'.heap.size := by
  have hne := h.ge (.cells #[] 0)
  have hne1 : w.heap.size + 1 ≠ r := by have := h.lt; omega
  have hne2 : w.heap.size + 1 ≠ g := by have := h.ltg; omega
  have hi : i + 1 ≤ l.length := (List.getElem?_eq_some_iff.1 hx).1
  have hd : ((w.alloc (.cells zP 119)).alloc (.cells #[.int .u8 0] 225)).heap[w.heap.size + 1]? = some (.cells #[.int .u8 0] 225 (0, 0)) := by
    have := heap_alloc_new (w.alloc (.cells zP 119)) (.cells #[.int .u8 0] 225); rwa [World.size_alloc] at this
  have hX : ((l.drop i).take 1)[0]? = some x := by rw [List.getElem?_take_of_lt (by decide), List.getElem?_drop]; exact hx
  refine (fix_ok r g l i (w.heap.size + 1) 1 _ _ _ ((h.alloc _).alloc _) (by decide) hi hd hne1 hne2 rfl).mono fun e w' ⟨h0, h1, h2, h3⟩ => ⟨h0, h1, (h2.get hX).trans rfl, ?_, ?_, ?_⟩
  · exact (h3.block _ (by simp; omega) (by have := h.lt; omega) (by omega)).trans ((Below.heap_alloc _ _ _ (by simp)).trans (heap_alloc_new w _))
  · exact Two.grown (grown_alloc (grown_alloc (grown_refl (r := r) w) _) _) h3 (by omega)
  · have := h3.size; simp at this; omega
theorem grown_setge {r : Nat} {w w' : World} (h : w.grownBy w' (some r)) {p : Addr} (hp : w.heap.size ≤ p.block) (v : Value) : w.grownBy (w'.setCell p v) (some r) :=
  ⟨h.os, h.tape, h.output, by rw [World.size_setCell]; exact h.size, fun k hk hr => (Below.heap_setCell _ _ _ _ (by omega)).trans (h.block k hk hr)⟩
theorem grown_lower {r : Nat} {w w1 w2 : World} (h : w.grownBy w1 (some r)) (k : Below w1.heap.size w1 w2) : w.grownBy w2 (some r) :=
  ⟨k.os.trans h.os, k.tape.trans h.tape, k.output.trans h.output, Nat.le_trans h.size k.size, fun i hi hr => (k.block i (Nat.lt_of_lt_of_le hi h.size)).trans (h.block i hi hr)⟩
theorem pane_set {w X : World} {b r g j : Nat} {l : List UInt8} {u0 u1 u2 u3 u4 : Value} (hZ : X.heap[b]? = some (.cells #[u0, u1, u2, u3, u4] 119 (0, 0))) (hb : w.heap.size ≤ b) (hg : w.grownBy X (some r)) (hr : Rd r g l j X) (hrl : r < w.heap.size) (hgl : g < w.heap.size) (v0 v1 v2 v3 v4 : Value) :
    (((((X.setCell ⟨b, 0, none⟩ v0).setCell ⟨b, 1, none⟩ v1).setCell ⟨b, 2, none⟩ v2).setCell ⟨b, 3, none⟩ v3).setCell ⟨b, 4, none⟩ v4).heap[b]? = some (.cells #[v0, v1, v2, v3, v4] 119 (0, 0)) ∧
    w.grownBy (((((X.setCell ⟨b, 0, none⟩ v0).setCell ⟨b, 1, none⟩ v1).setCell ⟨b, 2, none⟩ v2).setCell ⟨b, 3, none⟩ v3).setCell ⟨b, 4, none⟩ v4) (some r) ∧
    Rd r g l j (((((X.setCell ⟨b, 0, none⟩ v0).setCell ⟨b, 1, none⟩ v1).setCell ⟨b, 2, none⟩ v2).setCell ⟨b, 3, none⟩ v3).setCell ⟨b, 4, none⟩ v4) := by
  have n1 : b ≠ r := by omega
  have n2 : b ≠ g := by omega
  exact ⟨set5 hZ v0 v1 v2 v3 v4, grown_setge (grown_setge (grown_setge (grown_setge (grown_setge hg hb _) hb _) hb _) hb _) hb _, ((((hr.set ⟨b, 0, none⟩ _ n1 n2).set ⟨b, 1, none⟩ _ n1 n2).set ⟨b, 2, none⟩ _ n1 n2).set ⟨b, 3, none⟩ _ n1 n2).set ⟨b, 4, none⟩ _ n1 n2⟩
theorem same_zero {X : World} {b : Nat} (h : X.heap[b]? = some (.cells zP 119 (0, 0))) (k : Nat) : (((((X.setCell ⟨b, 0, none⟩ (.int .u8 0)).setCell ⟨b, 1, none⟩ (.bool false)).setCell ⟨b, 2, none⟩ (.bool false)).setCell ⟨b, 3, none⟩ (.int .i64 0)).setCell ⟨b, 4, none⟩ (.int .i64 0)).heap[k]? = X.heap[k]? := by
  have e0 := same_set (i := 0) (v := .int .u8 0) h rfl
  have e1 := same_set (i := 1) (v := .bool false) ((e0 b).trans h) rfl
  have e2 := same_set (i := 2) (v := .bool false) ((e1 b).trans ((e0 b).trans h)) rfl
  have e3 := same_set (i := 3) (v := .int .i64 0) ((e2 b).trans ((e1 b).trans ((e0 b).trans h))) rfl
  have e4 := same_set (i := 4) (v := .int .i64 0) ((e3 b).trans ((e2 b).trans ((e1 b).trans ((e0 b).trans h)))) rfl
  exact (e4 k).trans ((e3 k).trans ((e2 k).trans ((e1 k).trans (e0 k))))
theorem pane_err {w X : World} {b r g j : Nat} {l : List UInt8} {ev : Value} (hZ : X.heap[b]? = some (.cells zP 119 (0, 0))) (hb : w.heap.size ≤ b) (hg : w.grownBy X (some r)) (hr : Rd r g l j X) (hrl : r < w.heap.size) (hgl : g < w.heap.size) (he : Err ev X) :
    (((((X.setCell ⟨b, 0, none⟩ (.int .u8 0)).setCell ⟨b, 1, none⟩ (.bool false)).setCell ⟨b, 2, none⟩ (.bool false)).setCell ⟨b, 3, none⟩ (.int .i64 0)).setCell ⟨b, 4, none⟩ (.int .i64 0)).heap[b]? = some (.cells zP 119 (0, 0)) ∧
    Fell r g l w (((((X.setCell ⟨b, 0, none⟩ (.int .u8 0)).setCell ⟨b, 1, none⟩ (.bool false)).setCell ⟨b, 2, none⟩ (.bool false)).setCell ⟨b, 3, none⟩ (.int .i64 0)).setCell ⟨b, 4, none⟩ (.int .i64 0)) ev := by
  obtain ⟨h1, h2, h3⟩ := pane_set hZ hb hg hr hrl hgl (.int .u8 0) (.bool false) (.bool false) (.int .i64 0) (.int .i64 0)
  exact ⟨h1, h2, he.kept fun k _ => same_zero hZ k, j, h3⟩
theorem Err.set {ev : Value} {X : World} {b j : Nat} {cs : Array Value} {T : TypeId} (h : Err ev X) (hb : X.heap[b]? = some (.cells cs T (0, 0))) (hs : ∀ s : ByteArray, (Value.string s) ∉ cs) (v : Value) : Err ev (X.setCell ⟨b, j, none⟩ v) := by
  obtain ⟨a, s, e1, e2, e3⟩ := h
  refine ⟨a, s, e1, (World.cell?_of_block (a := a) (Below.heap_setCell _ _ _ _ (fun e => ?_))).trans e2, e3⟩
  have e4 : X.heap[a.block]? = some (.cells cs T (0, 0)) := by rw [show a.block = b from e]; exact hb
  simp [World.cell?, e4] at e2
  exact hs s (Array.mem_of_getElem? e2.2)
set_option maxHeartbeats 8000000 in
set_option maxRecDepth 100000 in
theorem decPane_0 (r g : Nat) (l : List UInt8) (i : Nat) (x : UInt8) (w : World) (h : Rd r g l i w) (hx : l[i]? = some x) (hf : x.toNat / 16 = 0) :
    Calls Tryz.prog 85 #[rdI r] w fun e w' => e = .returned (.tuple #[.agg #[.int .u8 (x.toNat / 4 % 4 : Nat), .bool (x.toNat % 2 = 1), .bool (x.toNat / 2 % 2 = 1), .int .i64 0, .int .i64 0], .nilIface]) ∧ w.grownBy w' (some r) ∧ Rd r g l (i + 1) w' := by
  have HC := Lib.hid (pane_head r g l i x w h hx)
  obtain ⟨n, hn⟩ : ∃ n, Hid (x.toNat = n) := ⟨_, Lib.hid rfl⟩
  have hn256 : n < 256 := by have := x.toNat_lt; have := hn.out; omega
  rw [hn.out] at HC hf ⊢
  have qa := and15 n hn256
  obtain ⟨m, hm⟩ : ∃ m, Hid (n % 16 = m) := ⟨_, Lib.hid rfl⟩
  rw [hm.out] at qa
  have q4 : (n : Int) / 16 = 0 := by omega
  have HN := Lib.hid (newPane_any m (by have := hm.out; omega))
  obtain ⟨y, hy⟩ : ∃ y, Hid (m / 4 % 4 = y) := ⟨_, Lib.hid rfl⟩
  obtain ⟨f, hf'⟩ : ∃ f, Hid (decide (m % 2 = 1) = f) := ⟨_, Lib.hid rfl⟩
  obtain ⟨la, hla⟩ : ∃ la, Hid (decide (m / 2 % 2 = 1) = la) := ⟨_, Lib.hid rfl⟩
  rw [hy.out, hf'.out, hla.out] at HN
  have ey : n / 4 % 4 = y := by have := hm.out; have := hy.out; omega
  rw [ey, show (decide (n % 2 = 1)) = f by rw [← hf'.out]; apply decide_eq_decide.2; have := hm.out; omega, show (decide (n / 2 % 2 = 1)) = la by rw [← hla.out]; apply decide_eq_decide.2; have := hm.out; omega]
  have HL := Lib.hid (And.intro h.lt h.ltg)
  clear h hx hf hn256 ey
  go_enter Tryz.func85, Tryz.ntmps85
  go_wp2_with (first
    | (go_at_call 106; go_loud (refine HC.out.mono ?_; rintro e_ w1 ⟨rfl, h1, x0, h3, h4, h5⟩; have H1 := Lib.hid (And.intro h1 (And.intro h3 (And.intro h4 h5))); have X0 := Lib.hid x0; clear h1 h3 h4 h5))
    | (go_at_call 62; go_loud (refine (HN.out w1).mono ?_; rintro e_ w2 ⟨rfl, hb⟩; have z0 := (hb.cell (p := ⟨w.heap.size + 1, 0, none⟩) (by have := H1.out.2.2.2; show w.heap.size + 1 < w1.heap.size; omega)).trans X0.out; have hz : w.heap.size + 1 < w2.heap.size := (by have := hb.size; have := H1.out.2.2.2; omega); have Z2 := Lib.hid ((hb.block _ (blk_lt H1.out.2.1)).trans H1.out.2.1); have hz0 : w.heap.size < w2.heap.size := (by omega); obtain ⟨p0, p1, p2, p3, p4⟩ := laid5 Z2.out; obtain ⟨o0, o1, o2, o3, o4⟩ := open5 Z2.out; have H2 := Lib.hid (And.intro (grown_lower H1.out.2.2.1 hb) (H1.out.1.below hb)); clear hb)))
  have hF := pane_set (w := w) Z2.out (Nat.le_refl _) H2.out.1 H2.out.2 HL.out.1 HL.out.2 (.int .u8 y) (.bool f) (.bool la) (.int .i64 0) (.int .i64 0)
  have HF := Lib.hid (And.intro ((Below.heap_alloc _ (.cells #[.int .u8 y, .bool f, .bool la, .int .i64 0, .int .i64 0] 119) _ (blk_lt hF.1)).trans hF.1) (And.intro (grown_alloc hF.2.1 (.cells #[.int .u8 y, .bool f, .bool la, .int .i64 0, .int .i64 0] 119)) (hF.2.2.alloc (.cells #[.int .u8 y, .bool f, .bool la, .int .i64 0, .int .i64 0] 119))))
  clear p0 p1 p2 p3 p4 o0 o1 o2 o3 o4 z0 x0 hF
  generalize (((((w2.setCell ⟨w.heap.size, 0, none⟩ (.int .u8 y)).setCell ⟨w.heap.size, 1, none⟩ (.bool f)).setCell ⟨w.heap.size, 2, none⟩ (.bool la)).setCell ⟨w.heap.size, 3, none⟩ (.int .i64 0)).setCell ⟨w.heap.size, 4, none⟩ (.int .i64 0)).alloc (.cells #[.int .u8 y, .bool f, .bool la, .int .i64 0, .int .i64 0] 119) = X at HF ⊢
  obtain ⟨c0, c1, c2, c3, c4⟩ := laid5 HF.out.1
  exact bodyPost_ret (v := .tuple #[.agg #[.int .u8 y, .bool f, .bool la, .int .i64 0, .int .i64 0], .nilIface]) (by simp [results, Tryz.results85, go_sem, c0, c1, c2, c3, c4]; try rfl) rfl ⟨rfl, HF.out.2.1, HF.out.2.2⟩
set_option maxHeartbeats 8000000 in
set_option maxRecDepth 100000 in
theorem decPane_1z (r g : Nat) (l : List UInt8) (i : Nat) (x : UInt8) (w : World) (h : Rd r g l i w) (hx : l[i]? = some x) (hf : x.toNat / 16 = 1) (hy0 : x.toNat / 4 % 4 = 0) (B : Nat) (pe pl : Addr) (he : Env B pe pl w) (hBr : B ≤ r) (hB : B ≤ w.heap.size) (v k : Nat) (hv : vrd 0 0 (l.drop (i + 1)) = some (v, k)) :
    Calls Tryz.prog 85 #[rdI r] w fun e w' => e = .returned (.tuple #[.agg #[.int .u8 (x.toNat / 4 % 4 : Nat), .bool (x.toNat % 2 = 1), .bool (x.toNat / 2 % 2 = 1), .int .i64 (wrap64 (v : Nat)), .int .i64 (-1)], .nilIface]) ∧ w.grownBy w' (some r) ∧ Rd r g l (i + 1 + k) w' := by
  have HC := Lib.hid (pane_head r g l i x w h hx)
  obtain ⟨n, hn⟩ : ∃ n, Hid (x.toNat = n) := ⟨_, Lib.hid rfl⟩
  have hn256 : n < 256 := by have := x.toNat_lt; have := hn.out; omega
  rw [hn.out] at HC hf hy0 ⊢
  have qa := and15 n hn256
  obtain ⟨m, hm⟩ : ∃ m, Hid (n % 16 = m) := ⟨_, Lib.hid rfl⟩
  rw [hm.out] at qa
  have q4 : (n : Int) / 16 = 1 := by omega
  have HN := Lib.hid (newPane_any m (by have := hm.out; omega))
  obtain ⟨y, hy⟩ : ∃ y, Hid (m / 4 % 4 = y) := ⟨_, Lib.hid rfl⟩
  obtain ⟨f, hf'⟩ : ∃ f, Hid (decide (m % 2 = 1) = f) := ⟨_, Lib.hid rfl⟩
  obtain ⟨la, hla⟩ : ∃ la, Hid (decide (m / 2 % 2 = 1) = la) := ⟨_, Lib.hid rfl⟩
  rw [hy.out, hf'.out, hla.out] at HN
  have ey : n / 4 % 4 = y := by have := hm.out; have := hy.out; omega
  rw [ey, show (decide (n % 2 = 1)) = f by rw [← hf'.out]; apply decide_eq_decide.2; have := hm.out; omega, show (decide (n / 2 % 2 = 1)) = la by rw [← hla.out]; apply decide_eq_decide.2; have := hm.out; omega]
  have HL := Lib.hid (And.intro h.lt h.ltg)
  rw [ey] at hy0
  have qy : ((y : Int) == 0) = true := by rw [hy0]; rfl
  have HE := Lib.hid (And.intro he (And.intro hB hBr))
  have HV := Lib.hid hv
  obtain ⟨V, hV⟩ : ∃ V, Hid (wrap64 ((v : Nat) : Int) = V) := ⟨_, Lib.hid rfl⟩
  rw [hV.out]
  clear h hx hf hn256 ey hv he hBr hB hy0
  go_enter Tryz.func85, Tryz.ntmps85
  go_wp2_with (first
    | (go_at_call 106; go_loud (refine HC.out.mono ?_; rintro e_ w1 ⟨rfl, h1, x0, h3, h4, h5⟩; have H1 := Lib.hid (And.intro h1 (And.intro h3 (And.intro h4 h5))); have X0 := Lib.hid x0; clear h1 h3 h4 h5))
    | (go_at_call 62; go_loud (refine (HN.out w1).mono ?_; rintro e_ w2 ⟨rfl, hb⟩; have z0 := (hb.cell (p := ⟨w.heap.size + 1, 0, none⟩) (by have := H1.out.2.2.2; show w.heap.size + 1 < w1.heap.size; omega)).trans X0.out; have hz : w.heap.size + 1 < w2.heap.size := (by have := hb.size; have := H1.out.2.2.2; omega); have Z2 := Lib.hid ((hb.block _ (blk_lt H1.out.2.1)).trans H1.out.2.1); have hz0 : w.heap.size < w2.heap.size := (by omega);  have H2 := Lib.hid (And.intro (grown_lower H1.out.2.2.1 hb) (H1.out.1.below hb)); clear hb))
    | (go_at_call 91; go_loud (refine (decVarI_ok B pe pl r g l (i + 1) v k _ (H2.out.2.alloc _) (HE.out.1.below (grown_below (grown_alloc H2.out.1 _) HE.out.2.1 HE.out.2.2)) HE.out.2.2 HV.out).mono ?_; rw [hV.out]; rintro e_ w3 ⟨rfl, hg3, hr3⟩; have Z3 := Lib.hid ((hg3.block _ (by rw [World.size_alloc]; omega) (by intro e; cases e; have := HL.out.1; omega)).trans ((Below.heap_alloc _ _ _ hz0).trans Z2.out)); have Y3 := Lib.hid ((hg3.block _ (by rw [World.size_alloc]; omega) (by intro e; cases e; have := HL.out.1; omega)).trans (heap_alloc_new w2 _)); obtain ⟨p0, p1, p2, p3, p4⟩ := laid5 Z3.out; obtain ⟨o0, o1, o2, o3, o4⟩ := open5 Z3.out; obtain ⟨s0, s1, s2, s3, s4⟩ := laid5 Y3.out; obtain ⟨t0, t1, t2, t3, t4⟩ := open5 Y3.out; have hne1 : w.heap.size ≠ w2.heap.size := (by omega); have hne2 : w2.heap.size ≠ w.heap.size := (by omega); have H3 := Lib.hid (And.intro (grown_trans (grown_alloc H2.out.1 _) hg3) hr3); clear hg3 hr3)))
  have HF := Lib.hid (pane_set (w := w) (X := ((w3.setCell ⟨w2.heap.size, 3, none⟩ (.int .i64 V)).setCell ⟨w2.heap.size, 4, none⟩ (.int .i64 (-1)))) ((Below.heap_setCell _ _ _ _ (by show w.heap.size ≠ w2.heap.size; omega)).trans ((Below.heap_setCell _ _ _ _ (by show w.heap.size ≠ w2.heap.size; omega)).trans Z3.out)) (Nat.le_refl _) (grown_setge (grown_setge H3.out.1 (by show w.heap.size ≤ w2.heap.size; omega) _) (by show w.heap.size ≤ w2.heap.size; omega) _) ((H3.out.2.set _ _ (by have := HL.out.1; show w2.heap.size ≠ r; omega) (by have := HL.out.2; show w2.heap.size ≠ g; omega)).set _ _ (by have := HL.out.1; show w2.heap.size ≠ r; omega) (by have := HL.out.2; show w2.heap.size ≠ g; omega)) HL.out.1 HL.out.2 (.int .u8 y) (.bool f) (.bool la) (.int .i64 V) (.int .i64 (-1)))
  clear p0 p1 p2 p3 p4 o0 o1 o2 o3 o4 s0 s1 s2 s3 s4 t0 t1 t2 t3 t4 z0 x0
  generalize (((((((w3.setCell ⟨w2.heap.size, 3, none⟩ (.int .i64 V)).setCell ⟨w2.heap.size, 4, none⟩ (.int .i64 (-1))).setCell ⟨w.heap.size, 0, none⟩ (.int .u8 y)).setCell ⟨w.heap.size, 1, none⟩ (.bool f)).setCell ⟨w.heap.size, 2, none⟩ (.bool la)).setCell ⟨w.heap.size, 3, none⟩ (.int .i64 V)).setCell ⟨w.heap.size, 4, none⟩ (.int .i64 (-1))) = X at HF ⊢
  obtain ⟨c0, c1, c2, c3, c4⟩ := laid5 HF.out.1
  exact bodyPost_ret (v := .tuple #[.agg #[.int .u8 y, .bool f, .bool la, .int .i64 V, .int .i64 (-1)], .nilIface]) (by simp [results, Tryz.results85, go_sem, c0, c1, c2, c3, c4]; try rfl) rfl ⟨rfl, HF.out.2.1, HF.out.2.2⟩
set_option maxHeartbeats 8000000 in
set_option maxRecDepth 100000 in
theorem decPane_1 (r g : Nat) (l : List UInt8) (i : Nat) (x : UInt8) (w : World) (h : Rd r g l i w) (hx : l[i]? = some x) (hf : x.toNat / 16 = 1) (hy0 : x.toNat / 4 % 4 ≠ 0) (B : Nat) (pe pl : Addr) (he : Env B pe pl w) (hBr : B ≤ r) (hB : B ≤ w.heap.size) (v k : Nat) (hv : vrd 0 0 (l.drop (i + 1)) = some (v, k)) :
    Calls Tryz.prog 85 #[rdI r] w fun e w' => e = .returned (.tuple #[.agg #[.int .u8 (x.toNat / 4 % 4 : Nat), .bool (x.toNat % 2 = 1), .bool (x.toNat / 2 % 2 = 1), .int .i64 (wrap64 (v : Nat)), .int .i64 (wrap64 (v : Nat))], .nilIface]) ∧ w.grownBy w' (some r) ∧ Rd r g l (i + 1 + k) w' := by
  have HC := Lib.hid (pane_head r g l i x w h hx)
  obtain ⟨n, hn⟩ : ∃ n, Hid (x.toNat = n) := ⟨_, Lib.hid rfl⟩
  have hn256 : n < 256 := by have := x.toNat_lt; have := hn.out; omega
  rw [hn.out] at HC hf hy0 ⊢
  have qa := and15 n hn256
  obtain ⟨m, hm⟩ : ∃ m, Hid (n % 16 = m) := ⟨_, Lib.hid rfl⟩
  rw [hm.out] at qa
  have q4 : (n : Int) / 16 = 1 := by omega
  have HN := Lib.hid (newPane_any m (by have := hm.out; omega))
  obtain ⟨y, hy⟩ : ∃ y, Hid (m / 4 % 4 = y) := ⟨_, Lib.hid rfl⟩
  obtain ⟨f, hf'⟩ : ∃ f, Hid (decide (m % 2 = 1) = f) := ⟨_, Lib.hid rfl⟩
  obtain ⟨la, hla⟩ : ∃ la, Hid (decide (m / 2 % 2 = 1) = la) := ⟨_, Lib.hid rfl⟩
  rw [hy.out, hf'.out, hla.out] at HN
  have ey : n / 4 % 4 = y := by have := hm.out; have := hy.out; omega
  rw [ey, show (decide (n % 2 = 1)) = f by rw [← hf'.out]; apply decide_eq_decide.2; have := hm.out; omega, show (decide (n / 2 % 2 = 1)) = la by rw [← hla.out]; apply decide_eq_decide.2; have := hm.out; omega]
  have HL := Lib.hid (And.intro h.lt h.ltg)
  rw [ey] at hy0
  have qy : ((y : Int) == 0) = false := beq_eq_false_iff_ne.2 (by omega)
  have HE := Lib.hid (And.intro he (And.intro hB hBr))
  have HV := Lib.hid hv
  obtain ⟨V, hV⟩ : ∃ V, Hid (wrap64 ((v : Nat) : Int) = V) := ⟨_, Lib.hid rfl⟩
  rw [hV.out]
  clear h hx hf hn256 ey hv he hBr hB hy0
  go_enter Tryz.func85, Tryz.ntmps85
  go_wp2_with (first
    | (go_at_call 106; go_loud (refine HC.out.mono ?_; rintro e_ w1 ⟨rfl, h1, x0, h3, h4, h5⟩; have H1 := Lib.hid (And.intro h1 (And.intro h3 (And.intro h4 h5))); have X0 := Lib.hid x0; clear h1 h3 h4 h5))
    | (go_at_call 62; go_loud (refine (HN.out w1).mono ?_; rintro e_ w2 ⟨rfl, hb⟩; have z0 := (hb.cell (p := ⟨w.heap.size + 1, 0, none⟩) (by have := H1.out.2.2.2; show w.heap.size + 1 < w1.heap.size; omega)).trans X0.out; have hz : w.heap.size + 1 < w2.heap.size := (by have := hb.size; have := H1.out.2.2.2; omega); have Z2 := Lib.hid ((hb.block _ (blk_lt H1.out.2.1)).trans H1.out.2.1); have hz0 : w.heap.size < w2.heap.size := (by omega);  have H2 := Lib.hid (And.intro (grown_lower H1.out.2.2.1 hb) (H1.out.1.below hb)); clear hb))
    | (go_at_call 91; go_loud (refine (decVarI_ok B pe pl r g l (i + 1) v k _ (H2.out.2.alloc _) (HE.out.1.below (grown_below (grown_alloc H2.out.1 _) HE.out.2.1 HE.out.2.2)) HE.out.2.2 HV.out).mono ?_; rw [hV.out]; rintro e_ w3 ⟨rfl, hg3, hr3⟩; have Z3 := Lib.hid ((hg3.block _ (by rw [World.size_alloc]; omega) (by intro e; cases e; have := HL.out.1; omega)).trans ((Below.heap_alloc _ _ _ hz0).trans Z2.out)); have Y3 := Lib.hid ((hg3.block _ (by rw [World.size_alloc]; omega) (by intro e; cases e; have := HL.out.1; omega)).trans (heap_alloc_new w2 _)); obtain ⟨p0, p1, p2, p3, p4⟩ := laid5 Z3.out; obtain ⟨o0, o1, o2, o3, o4⟩ := open5 Z3.out; obtain ⟨s0, s1, s2, s3, s4⟩ := laid5 Y3.out; obtain ⟨t0, t1, t2, t3, t4⟩ := open5 Y3.out; have hne1 : w.heap.size ≠ w2.heap.size := (by omega); have hne2 : w2.heap.size ≠ w.heap.size := (by omega); have H3 := Lib.hid (And.intro (grown_trans (grown_alloc H2.out.1 _) hg3) hr3); clear hg3 hr3)))
  have HF := Lib.hid (pane_set (w := w) (X := ((w3.setCell ⟨w2.heap.size, 3, none⟩ (.int .i64 V)).setCell ⟨w2.heap.size, 4, none⟩ (.int .i64 V))) ((Below.heap_setCell _ _ _ _ (by show w.heap.size ≠ w2.heap.size; omega)).trans ((Below.heap_setCell _ _ _ _ (by show w.heap.size ≠ w2.heap.size; omega)).trans Z3.out)) (Nat.le_refl _) (grown_setge (grown_setge H3.out.1 (by show w.heap.size ≤ w2.heap.size; omega) _) (by show w.heap.size ≤ w2.heap.size; omega) _) ((H3.out.2.set _ _ (by have := HL.out.1; show w2.heap.size ≠ r; omega) (by have := HL.out.2; show w2.heap.size ≠ g; omega)).set _ _ (by have := HL.out.1; show w2.heap.size ≠ r; omega) (by have := HL.out.2; show w2.heap.size ≠ g; omega)) HL.out.1 HL.out.2 (.int .u8 y) (.bool f) (.bool la) (.int .i64 V) (.int .i64 V))
  clear p0 p1 p2 p3 p4 o0 o1 o2 o3 o4 s0 s1 s2 s3 s4 t0 t1 t2 t3 t4 z0 x0
  generalize (((((((w3.setCell ⟨w2.heap.size, 3, none⟩ (.int .i64 V)).setCell ⟨w2.heap.size, 4, none⟩ (.int .i64 V)).setCell ⟨w.heap.size, 0, none⟩ (.int .u8 y)).setCell ⟨w.heap.size, 1, none⟩ (.bool f)).setCell ⟨w.heap.size, 2, none⟩ (.bool la)).setCell ⟨w.heap.size, 3, none⟩ (.int .i64 V)).setCell ⟨w.heap.size, 4, none⟩ (.int .i64 V)) = X at HF ⊢
  obtain ⟨c0, c1, c2, c3, c4⟩ := laid5 HF.out.1
  exact bodyPost_ret (v := .tuple #[.agg #[.int .u8 y, .bool f, .bool la, .int .i64 V, .int .i64 V], .nilIface]) (by simp [results, Tryz.results85, go_sem, c0, c1, c2, c3, c4]; try rfl) rfl ⟨rfl, HF.out.2.1, HF.out.2.2⟩
set_option maxHeartbeats 8000000 in
set_option maxRecDepth 100000 in
theorem decPane_eof (r g : Nat) (l : List UInt8) (i : Nat) (w : World) (h : Rd r g l i w) (hi : ¬ i + 1 ≤ l.length) (B : Nat) (pe pl : Addr) (he : Env B pe pl w) (hBr : B ≤ r) (hB : B ≤ w.heap.size) :
    Calls Tryz.prog 85 #[rdI r] w fun e w' => ∃ ev, e = .returned (.tuple #[.agg #[.int .u8 0, .bool false, .bool false, .int .i64 0, .int .i64 0], ev]) ∧ Fell r g l w w' ev := by
  have hne1 : w.heap.size + 1 ≠ r := by have := h.lt; omega
  have hne2 : w.heap.size + 1 ≠ g := by have := h.ltg; omega
  have hd : ((w.alloc (.cells zP 119)).alloc (.cells #[.int .u8 0] 225)).heap[w.heap.size + 1]? = some (.cells #[.int .u8 0] 225 (0, 0)) := by
    have := heap_alloc_new (w.alloc (.cells zP 119)) (.cells #[.int .u8 0] 225); rwa [World.size_alloc] at this
  have hbw : Below B w ((w.alloc (.cells zP 119)).alloc (.cells #[.int .u8 0] 225)) := ((Below.refl B w).alloc hB _).alloc (by simp; omega) _
  have HC := Lib.hid (fix_bad B pe pl r g l i (w.heap.size + 1) 1 _ _ _ ((h.alloc _).alloc _) (he.below hbw) hBr (by omega) (by decide) (by decide) hi hd hne1 hne2 rfl)
  have HE := Lib.hid (And.intro (he.below hbw) (And.intro hB hBr))
  have HL := Lib.hid (And.intro h.lt h.ltg)
  have HZ := Lib.hid (show ((w.alloc (.cells zP 119)).alloc (.cells #[.int .u8 0] 225)).heap[w.heap.size]? = some (.cells zP 119 (0, 0)) from (Below.heap_alloc _ _ _ (by simp)).trans (heap_alloc_new w _))
  clear h hi he hBr hB hne1 hne2 hd hbw
  go_enter Tryz.func85, Tryz.ntmps85
  go_wp2_with (go_at_call 106; go_loud (refine HC.out.mono ?_; rintro e_ w1 ⟨rfl, h1, h3⟩; have Z1 := Lib.hid ((h3.block _ (by simp; omega) (by have := HL.out; omega) (by omega)).trans HZ.out); obtain ⟨p0, p1, p2, p3, p4⟩ := laid5 Z1.out; obtain ⟨o0, o1, o2, o3, o4⟩ := open5 Z1.out; have G1 := Lib.hid (Two.grown (grown_alloc (grown_alloc (grown_refl (r := r) w) _) _) h3 (by omega)); have E1 := Lib.hid ((HE.out.1.below (h3.belowB (by simp; have := HE.out.2.1; omega) HE.out.2.2 (by have := HE.out.2.1; omega))).errE); have H1 := Lib.hid h1; clear h1 h3))
  have HF := Lib.hid (pane_err (w := w) (X := w1) Z1.out (Nat.le_refl _) G1.out H1.out HL.out.1 HL.out.2 E1.out)
  clear p0 p1 p2 p3 p4 o0 o1 o2 o3 o4
  generalize (((((w1.setCell ⟨w.heap.size, 0, none⟩ (.int .u8 0)).setCell ⟨w.heap.size, 1, none⟩ (.bool false)).setCell ⟨w.heap.size, 2, none⟩ (.bool false)).setCell ⟨w.heap.size, 3, none⟩ (.int .i64 0)).setCell ⟨w.heap.size, 4, none⟩ (.int .i64 0)) = X at HF ⊢
  obtain ⟨c0, c1, c2, c3, c4⟩ := laid5 HF.out.1
  exact bodyPost_ret (v := .tuple #[.agg #[.int .u8 0, .bool false, .bool false, .int .i64 0, .int .i64 0], errV pe]) (by simp [results, Tryz.results85, go_sem, c0, c1, c2, c3, c4]; try rfl) rfl ⟨_, rfl, HF.out.2⟩
set_option maxHeartbeats 8000000 in
set_option maxRecDepth 100000 in
theorem decPane_1b (r g : Nat) (l : List UInt8) (i : Nat) (x : UInt8) (w : World) (h : Rd r g l i w) (hx : l[i]? = some x) (hf : x.toNat / 16 = 1) (B : Nat) (pe pl : Addr) (he : Env B pe pl w) (hBr : B ≤ r) (hB : B ≤ w.heap.size) (hv : vrd 0 0 (l.drop (i + 1)) = none) :
    Calls Tryz.prog 85 #[rdI r] w fun e w' => ∃ ev, e = .returned (.tuple #[.agg #[.int .u8 0, .bool false, .bool false, .int .i64 0, .int .i64 0], ev]) ∧ Fell r g l w w' ev := by
  have HC := Lib.hid (pane_head r g l i x w h hx)
  obtain ⟨n, hn⟩ : ∃ n, Hid (x.toNat = n) := ⟨_, Lib.hid rfl⟩
  have hn256 : n < 256 := by have := x.toNat_lt; have := hn.out; omega
  rw [hn.out] at HC hf
  have qa := and15 n hn256
  obtain ⟨m, hm⟩ : ∃ m, Hid (n % 16 = m) := ⟨_, Lib.hid rfl⟩
  rw [hm.out] at qa
  have q4 : (n : Int) / 16 = 1 := by omega
  have HN := Lib.hid (newPane_any m (by have := hm.out; omega))
  obtain ⟨y, hy⟩ : ∃ y, Hid (m / 4 % 4 = y) := ⟨_, Lib.hid rfl⟩
  obtain ⟨f, hf'⟩ : ∃ f, Hid (decide (m % 2 = 1) = f) := ⟨_, Lib.hid rfl⟩
  obtain ⟨la, hla⟩ : ∃ la, Hid (decide (m / 2 % 2 = 1) = la) := ⟨_, Lib.hid rfl⟩
  rw [hy.out, hf'.out, hla.out] at HN
  have ey : n / 4 % 4 = y := by have := hm.out; have := hy.out; omega
  have HL := Lib.hid (And.intro h.lt h.ltg)
  have HE := Lib.hid (And.intro he (And.intro hB hBr))
  have HV := Lib.hid hv
  clear h hx hf hn256 ey hv he hBr hB
  go_enter Tryz.func85, Tryz.ntmps85
  go_wp2_with (first
    | (go_at_call 106; go_loud (refine HC.out.mono ?_; rintro e_ w1 ⟨rfl, h1, x0, h3, h4, h5⟩; have H1 := Lib.hid (And.intro h1 (And.intro h3 (And.intro h4 h5))); have X0 := Lib.hid x0; clear h1 h3 h4 h5))
    | (go_at_call 62; go_loud (refine (HN.out w1).mono ?_; rintro e_ w2 ⟨rfl, hb⟩; have z0 := (hb.cell (p := ⟨w.heap.size + 1, 0, none⟩) (by have := H1.out.2.2.2; show w.heap.size + 1 < w1.heap.size; omega)).trans X0.out; have hz : w.heap.size + 1 < w2.heap.size := (by have := hb.size; have := H1.out.2.2.2; omega); have Z2 := Lib.hid ((hb.block _ (blk_lt H1.out.2.1)).trans H1.out.2.1); have hz0 : w.heap.size < w2.heap.size := (by omega);  have H2 := Lib.hid (And.intro (grown_lower H1.out.2.2.1 hb) (H1.out.1.below hb)); clear hb))
    | (go_at_call 91; go_loud (refine (decVarI_bad B pe pl r g l (i + 1) _ (H2.out.2.alloc _) (HE.out.1.below (grown_below (grown_alloc H2.out.1 _) HE.out.2.1 HE.out.2.2)) HE.out.2.2 HV.out).mono ?_; rintro e_ w3 ⟨ev, rfl, hg3, hev, i', hr3⟩; have E3 := Lib.hid hev; obtain ⟨ea, es, rfl, hea, hes⟩ := hev; have Z3 := Lib.hid ((hg3.block _ (by rw [World.size_alloc]; omega) (by intro e; cases e; have := HL.out.1; omega)).trans ((Below.heap_alloc _ _ _ hz0).trans Z2.out)); obtain ⟨p0, p1, p2, p3, p4⟩ := laid5 Z3.out; obtain ⟨o0, o1, o2, o3, o4⟩ := open5 Z3.out; have H3 := Lib.hid (And.intro (grown_trans (grown_alloc H2.out.1 _) hg3) hr3); clear hg3 hr3 hea hes)))
  have HF := Lib.hid (pane_err (w := w) (X := w3) Z3.out (Nat.le_refl _) H3.out.1 H3.out.2 HL.out.1 HL.out.2 E3.out)
  clear p0 p1 p2 p3 p4 o0 o1 o2 o3 o4 z0 x0
  generalize (((((w3.setCell ⟨w.heap.size, 0, none⟩ (.int .u8 0)).setCell ⟨w.heap.size, 1, none⟩ (.bool false)).setCell ⟨w.heap.size, 2, none⟩ (.bool false)).setCell ⟨w.heap.size, 3, none⟩ (.int .i64 0)).setCell ⟨w.heap.size, 4, none⟩ (.int .i64 0)) = X at HF ⊢
  obtain ⟨c0, c1, c2, c3, c4⟩ := laid5 HF.out.1
  exact bodyPost_ret (v := .tuple #[.agg #[.int .u8 0, .bool false, .bool false, .int .i64 0, .int .i64 0], errV ea]) (by simp [results, Tryz.results85, go_sem, c0, c1, c2, c3, c4]; try rfl) rfl ⟨_, rfl, HF.out.2⟩
set_option maxHeartbeats 8000000 in
set_option maxRecDepth 100000 in
theorem decPane_2b (r g : Nat) (l : List UInt8) (i : Nat) (x : UInt8) (w : World) (h : Rd r g l i w) (hx : l[i]? = some x) (hf : x.toNat / 16 = 2) (B : Nat) (pe pl : Addr) (he : Env B pe pl w) (hBr : B ≤ r) (hB : B ≤ w.heap.size) (hv : vrd 0 0 (l.drop (i + 1)) = none) :
    Calls Tryz.prog 85 #[rdI r] w fun e w' => ∃ ev, e = .returned (.tuple #[.agg #[.int .u8 0, .bool false, .bool false, .int .i64 0, .int .i64 0], ev]) ∧ Fell r g l w w' ev := by
  have HC := Lib.hid (pane_head r g l i x w h hx)
  obtain ⟨n, hn⟩ : ∃ n, Hid (x.toNat = n) := ⟨_, Lib.hid rfl⟩
  have hn256 : n < 256 := by have := x.toNat_lt; have := hn.out; omega
  rw [hn.out] at HC hf
  have qa := and15 n hn256
  obtain ⟨m, hm⟩ : ∃ m, Hid (n % 16 = m) := ⟨_, Lib.hid rfl⟩
  rw [hm.out] at qa
  have q4 : (n : Int) / 16 = 2 := by omega
  have HN := Lib.hid (newPane_any m (by have := hm.out; omega))
  obtain ⟨y, hy⟩ : ∃ y, Hid (m / 4 % 4 = y) := ⟨_, Lib.hid rfl⟩
  obtain ⟨f, hf'⟩ : ∃ f, Hid (decide (m % 2 = 1) = f) := ⟨_, Lib.hid rfl⟩
  obtain ⟨la, hla⟩ : ∃ la, Hid (decide (m / 2 % 2 = 1) = la) := ⟨_, Lib.hid rfl⟩
  rw [hy.out, hf'.out, hla.out] at HN
  have ey : n / 4 % 4 = y := by have := hm.out; have := hy.out; omega
  have HL := Lib.hid (And.intro h.lt h.ltg)
  have HE := Lib.hid (And.intro he (And.intro hB hBr))
  have HV := Lib.hid hv
  clear h hx hf hn256 ey hv he hBr hB
  go_enter Tryz.func85, Tryz.ntmps85
  go_wp2_with (first
    | (go_at_call 106; go_loud (refine HC.out.mono ?_; rintro e_ w1 ⟨rfl, h1, x0, h3, h4, h5⟩; have H1 := Lib.hid (And.intro h1 (And.intro h3 (And.intro h4 h5))); have X0 := Lib.hid x0; clear h1 h3 h4 h5))
    | (go_at_call 62; go_loud (refine (HN.out w1).mono ?_; rintro e_ w2 ⟨rfl, hb⟩; have z0 := (hb.cell (p := ⟨w.heap.size + 1, 0, none⟩) (by have := H1.out.2.2.2; show w.heap.size + 1 < w1.heap.size; omega)).trans X0.out; have hz : w.heap.size + 1 < w2.heap.size := (by have := hb.size; have := H1.out.2.2.2; omega); have Z2 := Lib.hid ((hb.block _ (blk_lt H1.out.2.1)).trans H1.out.2.1); have hz0 : w.heap.size < w2.heap.size := (by omega);  have H2 := Lib.hid (And.intro (grown_lower H1.out.2.2.1 hb) (H1.out.1.below hb)); clear hb))
    | (go_at_call 91; go_loud (refine (decVarI_bad B pe pl r g l (i + 1) _ (H2.out.2.alloc _) (HE.out.1.below (grown_below (grown_alloc H2.out.1 _) HE.out.2.1 HE.out.2.2)) HE.out.2.2 HV.out).mono ?_; rintro e_ w3 ⟨ev, rfl, hg3, hev, i', hr3⟩; have E3 := Lib.hid hev; obtain ⟨ea, es, rfl, hea, hes⟩ := hev; have Z3 := Lib.hid ((hg3.block _ (by rw [World.size_alloc]; omega) (by intro e; cases e; have := HL.out.1; omega)).trans ((Below.heap_alloc _ _ _ hz0).trans Z2.out)); obtain ⟨p0, p1, p2, p3, p4⟩ := laid5 Z3.out; obtain ⟨o0, o1, o2, o3, o4⟩ := open5 Z3.out; have H3 := Lib.hid (And.intro (grown_trans (grown_alloc H2.out.1 _) hg3) hr3); clear hg3 hr3 hea hes)))
  have HF := Lib.hid (pane_err (w := w) (X := w3) Z3.out (Nat.le_refl _) H3.out.1 H3.out.2 HL.out.1 HL.out.2 E3.out)
  clear p0 p1 p2 p3 p4 o0 o1 o2 o3 o4 z0 x0
  generalize (((((w3.setCell ⟨w.heap.size, 0, none⟩ (.int .u8 0)).setCell ⟨w.heap.size, 1, none⟩ (.bool false)).setCell ⟨w.heap.size, 2, none⟩ (.bool false)).setCell ⟨w.heap.size, 3, none⟩ (.int .i64 0)).setCell ⟨w.heap.size, 4, none⟩ (.int .i64 0)) = X at HF ⊢
  obtain ⟨c0, c1, c2, c3, c4⟩ := laid5 HF.out.1
  exact bodyPost_ret (v := .tuple #[.agg #[.int .u8 0, .bool false, .bool false, .int .i64 0, .int .i64 0], errV ea]) (by simp [results, Tryz.results85, go_sem, c0, c1, c2, c3, c4]; try rfl) rfl ⟨_, rfl, HF.out.2⟩
set_option maxHeartbeats 8000000 in
set_option maxRecDepth 100000 in
theorem decPane_2 (r g : Nat) (l : List UInt8) (i : Nat) (x : UInt8) (w : World) (h : Rd r g l i w) (hx : l[i]? = some x) (hf : x.toNat / 16 = 2) (B : Nat) (pe pl : Addr) (he : Env B pe pl w) (hBr : B ≤ r) (hB : B ≤ w.heap.size) (v k v2 k2 : Nat) (hv : vrd 0 0 (l.drop (i + 1)) = some (v, k)) (hv2 : vrd 0 0 (l.drop (i + 1 + k)) = some (v2, k2)) :
    Calls Tryz.prog 85 #[rdI r] w fun e w' => e = .returned (.tuple #[.agg #[.int .u8 (x.toNat / 4 % 4 : Nat), .bool (x.toNat % 2 = 1), .bool (x.toNat / 2 % 2 = 1), .int .i64 (wrap64 (v : Nat)), .int .i64 (wrap64 (v2 : Nat))], .nilIface]) ∧ w.grownBy w' (some r) ∧ Rd r g l (i + 1 + k + k2) w' := by
  have HC := Lib.hid (pane_head r g l i x w h hx)
  obtain ⟨n, hn⟩ : ∃ n, Hid (x.toNat = n) := ⟨_, Lib.hid rfl⟩
  have hn256 : n < 256 := by have := x.toNat_lt; have := hn.out; omega
  rw [hn.out] at HC hf ⊢
  have qa := and15 n hn256
  obtain ⟨m, hm⟩ : ∃ m, Hid (n % 16 = m) := ⟨_, Lib.hid rfl⟩
  rw [hm.out] at qa
  have q4 : (n : Int) / 16 = 2 := by omega
  have HN := Lib.hid (newPane_any m (by have := hm.out; omega))
  obtain ⟨y, hy⟩ : ∃ y, Hid (m / 4 % 4 = y) := ⟨_, Lib.hid rfl⟩
  obtain ⟨f, hf'⟩ : ∃ f, Hid (decide (m % 2 = 1) = f) := ⟨_, Lib.hid rfl⟩
  obtain ⟨la, hla⟩ : ∃ la, Hid (decide (m / 2 % 2 = 1) = la) := ⟨_, Lib.hid rfl⟩
  rw [hy.out, hf'.out, hla.out] at HN
  have ey : n / 4 % 4 = y := by have := hm.out; have := hy.out; omega
  rw [ey, show (decide (n % 2 = 1)) = f by rw [← hf'.out]; apply decide_eq_decide.2; have := hm.out; omega, show (decide (n / 2 % 2 = 1)) = la by rw [← hla.out]; apply decide_eq_decide.2; have := hm.out; omega]
  have HL := Lib.hid (And.intro h.lt h.ltg)
  have HE := Lib.hid (And.intro he (And.intro hB hBr))
  have HV := Lib.hid hv
  have HV2 := Lib.hid hv2
  obtain ⟨V, hV⟩ : ∃ V, Hid (wrap64 ((v : Nat) : Int) = V) := ⟨_, Lib.hid rfl⟩
  obtain ⟨V2, hV2⟩ : ∃ V2, Hid (wrap64 ((v2 : Nat) : Int) = V2) := ⟨_, Lib.hid rfl⟩
  rw [hV.out, hV2.out]
  clear h hx hf hn256 ey hv hv2 he hBr hB
  go_enter Tryz.func85, Tryz.ntmps85
  go_wp2_with (first
    | (go_at_call 106; go_loud (refine HC.out.mono ?_; rintro e_ w1 ⟨rfl, h1, x0, h3, h4, h5⟩; have H1 := Lib.hid (And.intro h1 (And.intro h3 (And.intro h4 h5))); have X0 := Lib.hid x0; clear h1 h3 h4 h5))
    | (go_at_call 62; go_loud (refine (HN.out w1).mono ?_; rintro e_ w2 ⟨rfl, hb⟩; have z0 := (hb.cell (p := ⟨w.heap.size + 1, 0, none⟩) (by have := H1.out.2.2.2; show w.heap.size + 1 < w1.heap.size; omega)).trans X0.out; have hz : w.heap.size + 1 < w2.heap.size := (by have := hb.size; have := H1.out.2.2.2; omega); have Z2 := Lib.hid ((hb.block _ (blk_lt H1.out.2.1)).trans H1.out.2.1); have hz0 : w.heap.size < w2.heap.size := (by omega);  have H2 := Lib.hid (And.intro (grown_lower H1.out.2.2.1 hb) (H1.out.1.below hb)); clear hb))
    | (go_at_call 91; ((with_reducible refine (decVarI_ok B pe pl r g l (i + 1) v k _ (H2.out.2.alloc _) (HE.out.1.below (grown_below (grown_alloc H2.out.1 _) HE.out.2.1 HE.out.2.2)) HE.out.2.2 HV.out).mono ?_); rw [hV.out]; rintro e_ w3 ⟨rfl, hg3, hr3⟩; have Z3 := Lib.hid ((hg3.block _ (by rw [World.size_alloc]; omega) (by intro e; cases e; have := HL.out.1; omega)).trans ((Below.heap_alloc _ _ _ hz0).trans Z2.out)); have Y3 := Lib.hid ((hg3.block _ (by rw [World.size_alloc]; omega) (by intro e; cases e; have := HL.out.1; omega)).trans (heap_alloc_new w2 _)); obtain ⟨s0, s1, s2, s3, s4⟩ := laid5 Y3.out; obtain ⟨t0, t1, t2, t3, t4⟩ := open5 Y3.out; have hne1 : w.heap.size ≠ w2.heap.size := (by omega); have hne2 : w2.heap.size ≠ w.heap.size := (by omega); have hsz3 := hg3.size; have H3 := Lib.hid (And.intro (grown_trans (grown_alloc H2.out.1 _) hg3) (And.intro hr3 hsz3)); clear hg3 hr3 hsz3))
    | (go_at_call 91; ((with_reducible refine (decVarI_ok B pe pl r g l (i + 1 + k) v2 k2 (w3.setCell ⟨w2.heap.size, 3, none⟩ (.int .i64 V)) (H3.out.2.1.set _ _ (by have := HL.out.1; show w2.heap.size ≠ r; omega) (by have := HL.out.2; show w2.heap.size ≠ g; omega)) (HE.out.1.below (grown_below (grown_setge H3.out.1 (by show w.heap.size ≤ w2.heap.size; omega) _) HE.out.2.1 HE.out.2.2)) HE.out.2.2 HV2.out).mono ?_); rw [hV2.out]; rintro e_ w4 ⟨rfl, hg4, hr4⟩; have Z4 := Lib.hid ((hg4.block _ (by rw [World.size_setCell]; exact blk_lt Z3.out) (by intro e; cases e; have := HL.out.1; omega)).trans ((Below.heap_setCell _ _ _ _ (by show w.heap.size ≠ w2.heap.size; omega)).trans Z3.out)); have Y4 := Lib.hid ((hg4.block _ (by rw [World.size_setCell]; exact blk_lt Y3.out) (by intro e; cases e; have := HL.out.1; omega)).trans ((Lib.heap_setCell_same (i := 3) Y3.out (.int .i64 V)).trans rfl)); clear s0 s1 s2 s3 s4 t0 t1 t2 t3 t4; obtain ⟨s0, s1, s2, s3, s4⟩ := laid5 Y4.out; obtain ⟨t0, t1, t2, t3, t4⟩ := open5 Y4.out; obtain ⟨p0, p1, p2, p3, p4⟩ := laid5 Z4.out; obtain ⟨o0, o1, o2, o3, o4⟩ := open5 Z4.out; have H4 := Lib.hid (And.intro (grown_trans (grown_setge H3.out.1 (by show w.heap.size ≤ w2.heap.size; omega) _) hg4) hr4); clear hg4 hr4)))
  have HF := Lib.hid (pane_set (w := w) (X := (w4.setCell ⟨w2.heap.size, 4, none⟩ (.int .i64 V2))) ((Below.heap_setCell _ _ _ _ (by show w.heap.size ≠ w2.heap.size; omega)).trans Z4.out) (Nat.le_refl _) (grown_setge H4.out.1 (by show w.heap.size ≤ w2.heap.size; omega) _) (H4.out.2.set _ _ (by have := HL.out.1; show w2.heap.size ≠ r; omega) (by have := HL.out.2; show w2.heap.size ≠ g; omega)) HL.out.1 HL.out.2 (.int .u8 y) (.bool f) (.bool la) (.int .i64 V) (.int .i64 V2))
  clear p0 p1 p2 p3 p4 o0 o1 o2 o3 o4 s0 s1 s2 s3 s4 t0 t1 t2 t3 t4 z0 x0
  generalize ((((((w4.setCell ⟨w2.heap.size, 4, none⟩ (.int .i64 V2)).setCell ⟨w.heap.size, 0, none⟩ (.int .u8 y)).setCell ⟨w.heap.size, 1, none⟩ (.bool f)).setCell ⟨w.heap.size, 2, none⟩ (.bool la)).setCell ⟨w.heap.size, 3, none⟩ (.int .i64 V)).setCell ⟨w.heap.size, 4, none⟩ (.int .i64 V2)) = X at HF ⊢
  obtain ⟨c0, c1, c2, c3, c4⟩ := laid5 HF.out.1
  exact bodyPost_ret (v := .tuple #[.agg #[.int .u8 y, .bool f, .bool la, .int .i64 V, .int .i64 V2], .nilIface]) (by simp [results, Tryz.results85, go_sem, c0, c1, c2, c3, c4]; try rfl) rfl ⟨rfl, HF.out.2.1, HF.out.2.2⟩
set_option maxHeartbeats 8000000 in
set_option maxRecDepth 100000 in
theorem decPane_2c (r g : Nat) (l : List UInt8) (i : Nat) (x : UInt8) (w : World) (h : Rd r g l i w) (hx : l[i]? = some x) (hf : x.toNat / 16 = 2) (B : Nat) (pe pl : Addr) (he : Env B pe pl w) (hBr : B ≤ r) (hB : B ≤ w.heap.size) (v k : Nat) (hv : vrd 0 0 (l.drop (i + 1)) = some (v, k)) (hv2 : vrd 0 0 (l.drop (i + 1 + k)) = none) :
    Calls Tryz.prog 85 #[rdI r] w fun e w' => ∃ ev, e = .returned (.tuple #[.agg #[.int .u8 0, .bool false, .bool false, .int .i64 0, .int .i64 0], ev]) ∧ Fell r g l w w' ev := by
  have HC := Lib.hid (pane_head r g l i x w h hx)
  obtain ⟨n, hn⟩ : ∃ n, Hid (x.toNat = n) := ⟨_, Lib.hid rfl⟩
  have hn256 : n < 256 := by have := x.toNat_lt; have := hn.out; omega
  rw [hn.out] at HC hf
  have qa := and15 n hn256
  obtain ⟨m, hm⟩ : ∃ m, Hid (n % 16 = m) := ⟨_, Lib.hid rfl⟩
  rw [hm.out] at qa
  have q4 : (n : Int) / 16 = 2 := by omega
  have HN := Lib.hid (newPane_any m (by have := hm.out; omega))
  obtain ⟨y, hy⟩ : ∃ y, Hid (m / 4 % 4 = y) := ⟨_, Lib.hid rfl⟩
  obtain ⟨f, hf'⟩ : ∃ f, Hid (decide (m % 2 = 1) = f) := ⟨_, Lib.hid rfl⟩
  obtain ⟨la, hla⟩ : ∃ la, Hid (decide (m / 2 % 2 = 1) = la) := ⟨_, Lib.hid rfl⟩
  rw [hy.out, hf'.out, hla.out] at HN
  have ey : n / 4 % 4 = y := by have := hm.out; have := hy.out; omega
  have HL := Lib.hid (And.intro h.lt h.ltg)
  have HE := Lib.hid (And.intro he (And.intro hB hBr))
  have HV := Lib.hid hv
  have HV2 := Lib.hid hv2
  obtain ⟨V, hV⟩ : ∃ V, Hid (wrap64 ((v : Nat) : Int) = V) := ⟨_, Lib.hid rfl⟩
  clear h hx hf hn256 ey hv hv2 he hBr hB
  go_enter Tryz.func85, Tryz.ntmps85
  go_wp2_with (first
    | (go_at_call 106; go_loud (refine HC.out.mono ?_; rintro e_ w1 ⟨rfl, h1, x0, h3, h4, h5⟩; have H1 := Lib.hid (And.intro h1 (And.intro h3 (And.intro h4 h5))); have X0 := Lib.hid x0; clear h1 h3 h4 h5))
    | (go_at_call 62; go_loud (refine (HN.out w1).mono ?_; rintro e_ w2 ⟨rfl, hb⟩; have z0 := (hb.cell (p := ⟨w.heap.size + 1, 0, none⟩) (by have := H1.out.2.2.2; show w.heap.size + 1 < w1.heap.size; omega)).trans X0.out; have hz : w.heap.size + 1 < w2.heap.size := (by have := hb.size; have := H1.out.2.2.2; omega); have Z2 := Lib.hid ((hb.block _ (blk_lt H1.out.2.1)).trans H1.out.2.1); have hz0 : w.heap.size < w2.heap.size := (by omega);  have H2 := Lib.hid (And.intro (grown_lower H1.out.2.2.1 hb) (H1.out.1.below hb)); clear hb))
    | (go_at_call 91; ((with_reducible refine (decVarI_ok B pe pl r g l (i + 1) v k _ (H2.out.2.alloc _) (HE.out.1.below (grown_below (grown_alloc H2.out.1 _) HE.out.2.1 HE.out.2.2)) HE.out.2.2 HV.out).mono ?_); rw [hV.out]; rintro e_ w3 ⟨rfl, hg3, hr3⟩; have Z3 := Lib.hid ((hg3.block _ (by rw [World.size_alloc]; omega) (by intro e; cases e; have := HL.out.1; omega)).trans ((Below.heap_alloc _ _ _ hz0).trans Z2.out)); have Y3 := Lib.hid ((hg3.block _ (by rw [World.size_alloc]; omega) (by intro e; cases e; have := HL.out.1; omega)).trans (heap_alloc_new w2 _)); obtain ⟨s0, s1, s2, s3, s4⟩ := laid5 Y3.out; obtain ⟨t0, t1, t2, t3, t4⟩ := open5 Y3.out; have hne1 : w.heap.size ≠ w2.heap.size := (by omega); have hne2 : w2.heap.size ≠ w.heap.size := (by omega); have hsz3 := hg3.size; have H3 := Lib.hid (And.intro (grown_trans (grown_alloc H2.out.1 _) hg3) (And.intro hr3 hsz3)); clear hg3 hr3 hsz3))
    | (go_at_call 91; ((with_reducible refine (decVarI_bad B pe pl r g l (i + 1 + k) (w3.setCell ⟨w2.heap.size, 3, none⟩ (.int .i64 V)) (H3.out.2.1.set _ _ (by have := HL.out.1; show w2.heap.size ≠ r; omega) (by have := HL.out.2; show w2.heap.size ≠ g; omega)) (HE.out.1.below (grown_below (grown_setge H3.out.1 (by show w.heap.size ≤ w2.heap.size; omega) _) HE.out.2.1 HE.out.2.2)) HE.out.2.2 HV2.out).mono ?_); rintro e_ w4 ⟨ev, rfl, hg4, hev, i', hr4⟩; have E4 := Lib.hid hev; obtain ⟨ea, es, rfl, hea, hes⟩ := hev; have Z4 := Lib.hid ((hg4.block _ (by rw [World.size_setCell]; exact blk_lt Z3.out) (by intro e; cases e; have := HL.out.1; omega)).trans ((Below.heap_setCell _ _ _ _ (by show w.heap.size ≠ w2.heap.size; omega)).trans Z3.out)); have Y4 := Lib.hid ((hg4.block _ (by rw [World.size_setCell]; exact blk_lt Y3.out) (by intro e; cases e; have := HL.out.1; omega)).trans ((Lib.heap_setCell_same (i := 3) Y3.out (.int .i64 V)).trans rfl)); clear s0 s1 s2 s3 s4 t0 t1 t2 t3 t4; obtain ⟨s0, s1, s2, s3, s4⟩ := laid5 Y4.out; obtain ⟨t0, t1, t2, t3, t4⟩ := open5 Y4.out; obtain ⟨p0, p1, p2, p3, p4⟩ := laid5 Z4.out; obtain ⟨o0, o1, o2, o3, o4⟩ := open5 Z4.out; have H4 := Lib.hid (And.intro (grown_trans (grown_setge H3.out.1 (by show w.heap.size ≤ w2.heap.size; omega) _) hg4) hr4); clear hg4 hr4 hea hes)))
  have HF := Lib.hid (pane_err (w := w) (X := (w4.setCell ⟨w2.heap.size, 4, none⟩ (.int .i64 0))) ((Below.heap_setCell _ _ _ _ (by show w.heap.size ≠ w2.heap.size; omega)).trans Z4.out) (Nat.le_refl _) (grown_setge H4.out.1 (by show w.heap.size ≤ w2.heap.size; omega) _) (H4.out.2.set _ _ (by have := HL.out.1; show w2.heap.size ≠ r; omega) (by have := HL.out.2; show w2.heap.size ≠ g; omega)) HL.out.1 HL.out.2 (E4.out.set Y4.out (by simp) _))
  clear p0 p1 p2 p3 p4 o0 o1 o2 o3 o4 s0 s1 s2 s3 s4 t0 t1 t2 t3 t4 z0 x0
  generalize ((((((w4.setCell ⟨w2.heap.size, 4, none⟩ (.int .i64 0)).setCell ⟨w.heap.size, 0, none⟩ (.int .u8 0)).setCell ⟨w.heap.size, 1, none⟩ (.bool false)).setCell ⟨w.heap.size, 2, none⟩ (.bool false)).setCell ⟨w.heap.size, 3, none⟩ (.int .i64 0)).setCell ⟨w.heap.size, 4, none⟩ (.int .i64 0)) = X at HF ⊢
  obtain ⟨c0, c1, c2, c3, c4⟩ := laid5 HF.out.1
  exact bodyPost_ret (v := .tuple #[.agg #[.int .u8 0, .bool false, .bool false, .int .i64 0, .int .i64 0], errV ea]) (by simp [results, Tryz.results85, go_sem, c0, c1, c2, c3, c4]; try rfl) rfl ⟨_, rfl, HF.out.2⟩
end Go.Proofs.YtgdbeiadlgkedaaGreatDoor
