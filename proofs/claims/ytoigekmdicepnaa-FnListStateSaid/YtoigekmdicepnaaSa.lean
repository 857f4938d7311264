/- Contracts of the provider of states: transactions are kept in order. -/
import Derived.Test.YtoigekmdicepnaaPFnMapStatex1
import Derived.Deep.RegionHeld3
import Derived.Handy
import Derived.WalkSpells
import Derived.WalkLawsBesides
import Derived.Outline
set_option linter.unusedVariables false
set_option linter.unusedSimpArgs false
namespace Go.Proofs.Ytoigekmdicepnaa
open Go.RowKit Go.Proofs.YtoigekmdicepnaaW.PrintWords Go.Proofs.YtoigekmdicepnaaW.PrintLast Go.Proofs.YtoigekmdicepnaaW.PrintMore

/-- A value of any type, as these states have them. -/
inductive Av where
  | nil
  | int (n : Int)
  | str (s : ByteArray)
  | bl (x : Bool)
  | rg (x y : Int)
  | en (k : Int) (v : Int)
deriving DecidableEq
def Av.val : Av → Value
  | .nil => .nilIface
  | .int n => .iface 2 (.int .i64 n)
  | .str s => .iface 9 (.string s)
  | .bl x => .iface 4 (.bool x)
  | .rg x y => .iface 190 (.agg #[.int .i64 x, .int .i64 y])
  | .en k v => .iface 131 (.agg #[.int .i64 k, .iface 2 (.int .i64 v)])
theorem Av.val_one (x : Av) : (x.val).oneCell' = true := by cases x <;> rfl
def kAv : Kd Av := Kd.scalar Av.val Av.val_one
/-- A transaction. -/
structure Tr where
  k : ByteArray
  t : Int
  m : Av
  v : Av
def Tr.cells (x : Tr) : List Value := [.string x.k, .int .i32 x.t, x.m.val, x.v.val]
def zTr : Tr := ⟨ByteArray.empty, 0, .nil, .nil⟩
def kTr : Kd Tr := Kd.iso (Kd.pair Kd.string (Kd.pair (Kd.int .i32) (Kd.pair kAv kAv))) (fun x : Tr => (x.k, x.t, x.m, x.v))
theorem kTr_open {w : World} {x : Tr} {cs : List Value} (h : kTr.K w x cs) : cs = x.cells := by
  obtain ⟨_, _, rfl, rfl, ⟨_, _, rfl, rfl, ⟨_, _, rfl, rfl, rfl⟩⟩⟩ := h
  exact rfl
theorem kTr_mkM (w : World) (base : Nat) (ok : Nat → Prop) (x : Tr) : kTr.M w base ok x x.cells :=
  ⟨[.string x.k], [.int .i32 x.t, x.m.val, x.v.val], rfl, rfl, ⟨[.int .i32 x.t], [x.m.val, x.v.val], rfl, rfl, ⟨[x.m.val], [x.v.val], rfl, rfl, rfl⟩⟩⟩
def rdTr (xs : List Tr) (i : Nat) : Tr := xs.getD i zTr
theorem atTr {w : World} {A : Option Addr} {n : Nat} {xs : List Tr} (h : Kd.C kTr w A n xs) (i : Nat) (h1 : i < n) : ∃ ad, A = some ad ∧ w.cell? (ad.add (i * 4)) = some (.string (rdTr xs i).k) ∧ w.cell? ⟨(ad.add (i * 4)).block, (ad.add (i * 4)).off + 1, none⟩ = some (.int .i32 (rdTr xs i).t) ∧ w.cell? ⟨(ad.add (i * 4)).block, (ad.add (i * 4)).off + 2, none⟩ = some ((rdTr xs i).m.val) ∧ w.cell? ⟨(ad.add (i * 4)).block, (ad.add (i * 4)).off + 3, none⟩ = some ((rdTr xs i).v.val) := by
  obtain ⟨ad, c, e, _, hK, hc0⟩ := Kd.C_get h zTr (i : Int) (by omega) (by omega)
  have hc : ∀ j u, c[j]? = some u → w.cell? (ad.add (i * 4 + j)) = some u := hc0
  obtain rfl := kTr_open hK
  exact ⟨ad, e, hc 0 _ rfl, by rw [← add_field _ _ 1 (by omega)]; exact hc 1 _ rfl, by rw [← add_field _ _ 2 (by omega)]; exact hc 2 _ rfl, by rw [← add_field _ _ 3 (by omega)]; exact hc 3 _ rfl⟩
theorem takeTr_succ (l : List Tr) (k : Nat) (h : k < l.length) : l.take (k + 1) = l.take k ++ [rdTr l k] := by
  rw [List.take_succ_eq_append_getElem h]; simp [rdTr, List.getD_eq_getElem?_getD, h]
theorem info172 : (Try.prog.info? 172).map (fun i => (i.zero, i.size, i.bytes)) = some (some (.agg #[.string ByteArray.empty, .int .i32 0, .nilIface, .nilIface]), 4, 56) := by kernel_rfl
/-- The provider's block: what was there ahead, and the transactions. -/
structure Pv where
  v : Value
  b : Value
  k : Value
  m : Value
  l : Value
def WV (w : World) (g base : Nat) (p : Pv) (trs : List Tr) : Prop := ∃ d, w.heap[g]? = some (.cells #[p.v, p.b, p.k, p.m, p.l, d] 99 (0, 0)) ∧ Kd.R kTr 172 w base (fun _ => True) d trs ∧ base ≤ g
/-- What is no provider and no transactions stays. -/
def Keep (w w' : World) : Prop := ∀ (k : Nat) (o : Obj), w.heap[k]? = some o → (∀ cells t fz, o = Obj.cells cells t fz → t ≠ 99 ∧ t ≠ 172) → w'.heap[k]? = some o
theorem Keep.refl (w : World) : Keep w w := fun _ _ h _ => h
theorem Keep.trans {w w1 w2 : World} (h : Keep w w1) (h' : Keep w1 w2) : Keep w w2 := fun k o q t => h' k o (h k o q t) t
theorem Keep.below {w w' : World} (h : Below w.heap.size w w') : Keep w w' := fun k o q _ => (h.block k (blk_lt q)).trans q
theorem Keep.blk {w w' : World} (h : Keep w w') {k t : Nat} {cells : Array Value} (q : w.heap[k]? = some (.cells cells t (0, 0))) (h1 : t ≠ 99) (h2 : t ≠ 172) : w'.heap[k]? = some (.cells cells t (0, 0)) :=
  h k _ q (fun c t' fz e => by injection e with e1 e2 e3; subst e2; exact ⟨h1, h2⟩)
theorem Keep.R {α : Type} {d : Kd α} {e : Nat} {w w' : World} {base : Nat} {ok : Nat → Prop} {v : Value} {xs : List α} (h : Keep w w') (hR : d.R e w base ok v xs) (ht : ∀ q, q ∈ e :: d.E → q ≠ 99 ∧ q ≠ 172) : d.R e w' base ok v xs :=
  Kd.R_mono (Kd.R_move (Kd.R_bound hR) (fun k hk => by
    obtain ⟨_, _, _, q, hq, cells, hc⟩ := hk
    rw [hc]; exact h.blk hc (ht q hq).1 (ht q hq).2)) (fun _ hk => hk.1)
theorem WV.below {w w' : World} {g base : Nat} {p : Pv} {trs : List Tr} (h : WV w g base p trs) (hb : Below w.heap.size w w') : WV w' g base p trs := by
  obtain ⟨v, h1, h2, h3⟩ := h
  exact ⟨v, blk_below h1 hb, Kd.R_below h2 hb, h3⟩
theorem WV.base_le {w : World} {g base : Nat} {p : Pv} {trs : List Tr} (h : WV w g base p trs) : base ≤ w.heap.size := by
  obtain ⟨v, h1, _, h3⟩ := h; have := blk_lt h1; omega
/-- An append as one step of a region that draws: the new slice by its parts. -/
theorem R_append_sl {P : Program} {ops : Array Oper} {o : Oper} {a : Act} {Q : Exit → Act → World → Prop} {Kc : Act → World → Prop} {α : Type} (d : Kd α) {w0 W : World} (base : Nat) (hw : Region.wanted o (yielded ops a.tmps) = true) (s x : Operand) (t e : TypeId) (z : Value) (bytes : Nat)
    (ho : o.op = .call { callee := .builtin .append, args := #[s, x], argTypes := #[t, t] })
    (ht : P.underlying t = some (.slice e)) (hinfo : (P.info? e).map (fun i => (i.zero, i.size, i.bytes)) = some (some z, d.sz, bytes)) (hz : z.cells.size = d.sz) (hs0 : 0 < d.sz) (hb0 : 0 < bytes)
    (v : Value) (xs : List α) (p : α) (cs : List Value) (ok okp : Nat → Prop) (hs : a.eval s = v) (hx : a.eval x = .slice (some ⟨W.heap.size, 0, none⟩) 1 1) (hp : d.M W base okp p cs) (hokp : ∀ k, okp k → ok k ∧ some k ≠ v.ownBlock) (hfresh : ∀ k, W.heap.size ≤ k → ok k)
    (HO : d.R e W base ok v xs) (HB : Below base w0 W) (hbase : base ≤ W.heap.size) (hl : (xs.length + 1) * bytes ≤ 140737488355328)
    (h : ∀ A c w1, d.R e w1 base ok (.slice A (xs.length + 1) c) (xs ++ [p]) → Below base w0 w1 → W.grownBy w1 v.ownBlock → Kc (a.put o.dst (.slice A (xs.length + 1) c)) w1) :
    if Region.wanted o (yielded ops a.tmps) = true then Oper.wp P o a (W.alloc (.cells cs.toArray e)) Kc Q else Kc (a.put o.dst undef) (W.alloc (.cells cs.toArray e)) := by
  refine Kd.R_append_step d (w0 := w0) base hw s x t e z bytes ho ht hinfo hz hs0 hb0 v xs p cs ok okp hs hx hp hokp hfresh HO HB hbase hl (fun v1 w1 h1 h2 h3 _ => ?_)
  obtain ⟨A, c, hv⟩ := Kd.R_slice h1
  rw [List.length_append, List.length_singleton] at hv
  subst hv
  exact h A c w1 h1 h2 h3
theorem Keep.set {w : World} {g : Nat} {cells : Array Value} (h : w.heap[g]? = some (.cells cells 99 (0, 0))) (j : Nat) (u : Value) : Keep w (w.setCell ⟨g, j, none⟩ u) := fun k o q t => by
  by_cases hk : k = g
  · subst hk; rw [h] at q; injection q with q; exact absurd rfl (t _ _ _ q.symm).1
  · exact (Below.heap_setCell w ⟨g, j, none⟩ u k hk).trans q
theorem Keep.grown {w w' : World} {v : Value} {base : Nat} {trs : List Tr} (hR : Kd.R kTr 172 w base (fun _ => True) v trs) (hg : w.grownBy w' v.ownBlock) : Keep w w' := fun k o q t => by
  refine (hg.block k (blk_lt q) (fun e => ?_)).trans q
  obtain ⟨cells, hc⟩ := Kd.R_typed hR k e.symm
  rw [hc] at q; injection q with q
  exact absurd rfl (t _ _ _ q.symm).2
def keep_any.T1 : Bool × List (List Nat × List Nat) := (true, [([], []), ([], []), ([1], [1]), ([2], [2]), ([3], [3]), ([], []), ([5], [5]), ([4, 6], [4, 6]), ([0, 0, 1, 2, 3, 4, 5, 6, 7], [0]), ([8, 0, 1, 2, 3, 4, 5, 6, 7], [8]), ([9, 7, 7, 0, 1, 2, 3, 4, 5, 6, 7], [7, 9])])
def keep_any.B1 : List Nat := [0, 0, 2, 6, 14, 0, 32, 126, 255, 511, 1023]
theorem keep_any.tab1 : rtab .any (opsOf Try.f161 1) = keep_any.T1 := by kernel_rfl
theorem keep_any.bits1 : waitsOk keep_any.T1.2 keep_any.B1 = true := by kernel_rfl
set_option maxRecDepth 100000 in
set_option maxHeartbeats 4000000 in
theorem keep_any (g base : Nat) (p : Pv) (trs : List Tr) (k : ByteArray) (t : Int) (m v : Av) (w0 w : World) (h : WV w g base p trs) (hB : Below base w0 w) (hl : trs.length ≤ 1000000000) :
    Calls Try.prog 161 #[.pointer (some ⟨g, 0, none⟩), .agg #[.string k, .int .i32 t, m.val, v.val]] w fun e w' => e = .returned .nilIface ∧ WV w' g base p (trs ++ [⟨k, t, m, v⟩]) ∧ Keep w w' ∧ Below base w0 w' := by
  have HBS := h.base_le
  obtain ⟨d, hg, hR, hbg⟩ := h
  have HG := Aside0.mk (blk_drew (blk_alloc hg (.cells #[.string k, .int .i32 t, m.val, v.val] 172)))
  have HX := Aside0.mk (blk_drew (heap_alloc_new w (.cells #[.string k, .int .i32 t, m.val, v.val] 172)))
  have HR := Aside0.mk (Kd.R_drew (Kd.R_alloc hR (.cells #[.string k, .int .i32 t, m.val, v.val] 172)))
  have HB := Aside0.mk (below_drew (hB.alloc HBS (.cells #[.string k, .int .i32 t, m.val, v.val] 172)))
  have HK := Aside0.mk (Keep.below (below_drew (below_alloc (Below.refl w.heap.size w) (.cells #[.string k, .int .i32 t, m.val, v.val] 172))))
  clear hR hB hg
  have KS := Aside0.mk (fun (z : World) (h1 : z.heap[g]? = some (.cells #[p.v, p.b, p.k, p.m, p.l, d] 99 (0, 0))) (h2 : z.heap[w.heap.size]? = some (.cells #[.string k, .int .i32 t, m.val, v.val] 172 (0, 0))) => (⟨(blk_cell h1 5).trans rfl, (blk_cell h2 0).trans rfl, (blk_cell h2 1).trans rfl, (blk_cell h2 2).trans rfl, (blk_cell h2 3).trans rfl⟩ : z.cell? ⟨g, 5, none⟩ = some d ∧ z.cell? ⟨w.heap.size, 0, none⟩ = some (.string k) ∧ z.cell? ⟨w.heap.size, 1, none⟩ = some (.int .i32 t) ∧ z.cell? ⟨w.heap.size, 2, none⟩ = some (m.val) ∧ z.cell? ⟨w.heap.size, 3, none⟩ = some (v.val)))
  have K0 := KS.out _ HG.out HX.out
  have N1 := Aside0.mk (show some g ≠ d.ownBlock from OwnRow.ne_block HR.out.2 HG.out (by decide))
  have HBW := Aside0.mk (show base ≤ (w.alloc (.cells #[.string k, .int .i32 t, m.val, v.val] 172)).drew.heap.size from Nat.le_trans HBS (below_drew (below_alloc (Below.refl w.heap.size w) _)).size)
  go_enter Try.func161, Try.ntmps161
  go_wp2_with fail
  refine start_ (n := 11) (S := fun w' => w'.cell? ⟨g, 5, none⟩ = some d ∧ w'.cell? ⟨w.heap.size, 0, none⟩ = some (.string k) ∧ w'.cell? ⟨w.heap.size, 1, none⟩ = some (.int .i32 t) ∧ w'.cell? ⟨w.heap.size, 2, none⟩ = some (m.val) ∧ w'.cell? ⟨w.heap.size, 3, none⟩ = some (v.val)) (ds := [7, 10]) #[false, false, false, false, false, false, false, false, false, false, false] (by kernel_rfl) rfl rfl K0 (fun hHeld => ?_)
  refine with_tabW keep_any.tab1 keep_any.bits1 (fun HT_ HW_ => ?_)
  generalize (w.alloc (.cells #[.string k, .int .i32 t, m.val, v.val] 172)).drew = W at *
  -- 0: t5 := move t0 : 94 
  refine pure_ (i := 0) (N := some 5) (v := ?_) (a' := ?_) #[true, false, false, false, false, false, false, false, false, false, false] rfl rfl (any_of HT_.out (by kernel_rfl)) (fun _ _ _ h => h) (Or.inl ⟨by rfl, ?_⟩) ?_ ?_
  rotate_left
  · intro w'
    go_simp
    with_reducible rfl
  rotate_left
  · simp only [Act.put, List.setIfInBounds_toArray, List.set_cons_zero, List.set_cons_succ, i64_w, i32_w]
    rfl
  -- 1: t6 := move t0 : 94 
  refine pure_ (i := 1) (N := some 6) (v := ?_) (a' := ?_) #[true, true, false, false, false, false, false, false, false, false, false] rfl rfl (any_of HT_.out (by kernel_rfl)) (fun _ _ _ h => h) (Or.inl ⟨by rfl, ?_⟩) ?_ ?_
  rotate_left
  · intro w'
    go_simp
    with_reducible rfl
  rotate_left
  · simp only [Act.put, List.setIfInBounds_toArray, List.set_cons_zero, List.set_cons_succ, i64_w, i32_w]
    rfl
  -- 2: t7 := nilCheck t6 : 0 
  refine pure_ (i := 2) (N := some 7) (v := ?_) (a' := ?_) #[true, true, true, false, false, false, false, false, false, false, false] rfl rfl (any_of HT_.out (by kernel_rfl)) (fun _ _ _ h => h) (Or.inl ⟨by rfl, ?_⟩) ?_ ?_
  rotate_left
  · intro w'
    go_simp
    with_reducible rfl
  rotate_left
  · simp only [Act.put, List.setIfInBounds_toArray, List.set_cons_zero, List.set_cons_succ, i64_w, i32_w]
    rfl
  -- 3: t8 := fieldAddr 99 t7 5 : 0 
  refine pure_ (i := 3) (N := some 8) (v := ?_) (a' := ?_) #[true, true, true, true, false, false, false, false, false, false, false] rfl rfl (any_of HT_.out (by kernel_rfl)) (fun _ _ _ h => h) (Or.inl ⟨by rfl, ?_⟩) ?_ ?_
  rotate_left
  · intro w'
    go_simp
    with_reducible rfl
  rotate_left
  · simp only [Act.put, List.setIfInBounds_toArray, List.set_cons_zero, List.set_cons_succ, i64_w, i32_w]
    rfl
  -- 4: t9 := load 97 t8 : 97 
  refine take_ (i := 4) (N := some 9) (v := ?_) (a' := ?_) #[true, true, true, true, true, false, false, false, false, false, false] rfl rfl (take_ofW HT_.out HW_.out (by kernel_rfl)) (fun _ _ _ h => h) (Or.inl ⟨by rfl, ?_⟩) hHeld ?_ ?_
  rotate_left
  · rintro w' ⟨s0, s1, s2, s3, s4⟩
    go_simp
    with_reducible rfl
  rotate_left
  · simp only [Act.put, List.setIfInBounds_toArray, List.set_cons_zero, List.set_cons_succ, i64_w, i32_w]
    rfl
  -- 5: t10 := load 172 t3 : 172 
  refine take_ (i := 5) (N := some 10) (v := ?_) (a' := ?_) #[true, true, true, true, true, true, false, false, false, false, false] rfl rfl (take_ofW HT_.out HW_.out (by kernel_rfl)) (fun _ _ _ h => h) (Or.inl ⟨by rfl, ?_⟩) hHeld ?_ ?_
  rotate_left
  · rintro w' ⟨s0, s1, s2, s3, s4⟩
    go_simp
    with_reducible rfl
  rotate_left
  · simp only [Act.put, List.setIfInBounds_toArray, List.set_cons_zero, List.set_cons_succ, i64_w, i32_w]
    rfl
  -- 6: t11 := buildSlice 97 1 [(0, t10)] : 97 
  refine one_ (i := 6) (N := some 11) #[true, true, true, true, true, true, true, false, false, false, false] rfl rfl (one_of HT_.out (by kernel_rfl)) (by decide) (fun K hK => ?_)
  refine event_step (v := .slice (some ⟨W.heap.size, 0, none⟩) 1 1) (w1 := W.alloc (.cells #[.string k, .int .i32 t, m.val, v.val] 172)) (by rfl) (by first | (go_simp; done) | (go_simp; rfl)) ?_
  refine hK.out _ _ (KS.out _ (blk_alloc HG.out _) (blk_alloc HX.out _)) (fun hHeld => ?_)
  clear hK K
  simp only [Act.put, List.setIfInBounds_toArray, List.set_cons_zero, List.set_cons_succ]
  -- 7: t12 := call (Callee.builtin append) [t9, t11] : 97 
  refine last_ (i := 7) (N := some 12) #[true, true, true, true, true, true, true, true, false, false, false] rfl rfl (one_of HT_.out (by kernel_rfl)) (by decide) (fun K hK => ?_)
  refine R_append_sl kTr (w0 := w0) (W := W) base (by rfl) (.tmp 9) (.tmp 11) 97 172 _ 56 (by rfl) Try.underlying97 info172 rfl (by decide) (by decide) d trs ⟨k, t, m, v⟩ [.string k, .int .i32 t, m.val, v.val] (fun _ => True) (fun _ => False) (by rfl) (by rfl) (kTr_mkM _ _ _ ⟨k, t, m, v⟩) (fun _ hk => hk.elim) (fun _ _ => trivial) HR.out HB.out HBW.out (by omega) ?_
  intro A1 c1 w1 hR1 hB1 hg1
  have G1 := Aside0.mk (blk_grown HG.out hg1 N1.out)
  have G1 := Aside0.mk (blk_grown HG.out hg1 N1.out)
  have HK1 := Aside0.mk (HK.out.trans (Keep.grown HR.out hg1))
  have HR1 := Aside0.mk hR1
  have HB1 := Aside0.mk hB1
  clear hR1 hB1 hg1
  refine hK.out _ _ ?_
  clear hK K
  simp only [Act.put, List.setIfInBounds_toArray, List.set_cons_zero, List.set_cons_succ]
  -- 8: t13 := nilCheck t5 : 0 
  refine pure_ (i := 8) (N := some 13) (v := ?_) (a' := ?_) #[true, true, true, true, true, true, true, true, true, false, false] rfl rfl (any_of HT_.out (by kernel_rfl)) (fun _ _ _ h => h) (Or.inl ⟨by rfl, ?_⟩) ?_ ?_
  rotate_left
  · intro w'
    go_simp
    with_reducible rfl
  rotate_left
  · simp only [Act.put, List.setIfInBounds_toArray, List.set_cons_zero, List.set_cons_succ, i64_w, i32_w]
    rfl
  -- 9: t14 := fieldAddr 99 t13 5 : 0 
  refine pure_ (i := 9) (N := some 14) (v := ?_) (a' := ?_) #[true, true, true, true, true, true, true, true, true, true, false] rfl rfl (any_of HT_.out (by kernel_rfl)) (fun _ _ _ h => h) (Or.inl ⟨by rfl, ?_⟩) ?_ ?_
  rotate_left
  · intro w'
    go_simp
    with_reducible rfl
  rotate_left
  · simp only [Act.put, List.setIfInBounds_toArray, List.set_cons_zero, List.set_cons_succ, i64_w, i32_w]
    rfl
  -- 10: _ := store 97 t14 t12 : 0 
  refine last_ (i := 10) (N := none) #[true, true, true, true, true, true, true, true, true, true, true] rfl rfl (one_of HT_.out (by kernel_rfl)) (by decide) (fun K hK => ?_)
  have s1 := (blk_cell G1.out 5).trans (rfl : _ = some d)
  have f1 := blk_frozen G1.out 5
  refine skip_ (w1 := w1.setCell ⟨g, 5, none⟩ (.slice A1 (trs.length + 1) c1)) (by rfl) rfl (by first | (go_simp; done) | (go_simp; rfl)) ?_
  refine hK.out _ _ ?_
  clear hK K
  refine done_ (done_of HT_.out (by kernel_rfl)) ?_
  go_wp2
  go_ret
  exact ⟨rfl, ⟨_, blk_set G1.out 5 _, Kd.R_set HR1.out G1.out (by decide) 5 _, hbg⟩, HK1.out.trans (Keep.set G1.out 5 _), HB1.out.setCell hbg _⟩
end Go.Proofs.Ytoigekmdicepnaa
