/- Contracts of the timers' provider and of the options' functions. -/
import Derived.Test.YtoigekmdicepnaaPFnTimerRunx2
import Derived.Deep.RegionHeld3
import Derived.StillTailTactics
import Derived.Outline
import Derived.Handy
import Derived.WalkSpells
import Derived.WalkLawsBesides
set_option linter.unusedVariables false
set_option linter.unusedSimpArgs false
namespace Go.Proofs.Ytoigekmdicepnaa
open Go.RowKit Go.Proofs.YtoigekmdicepnaaW.PrintWords Go.Proofs.YtoigekmdicepnaaW.PrintLast Go.Proofs.YtoigekmdicepnaaW.PrintMore

/-- What a provider is given. -/
structure TM where
  f : ByteArray
  t : ByteArray
  c : Bool
  fi : Int
  ho : Int
deriving DecidableEq
def TM.cells (x : TM) : List Value := [.string x.f, .string x.t, .bool x.c, .int .i64 x.fi, .int .i64 x.ho]
def zTM : TM := ⟨ByteArray.empty, ByteArray.empty, false, 0, 0⟩
def kTM : Kd TM := Kd.iso (Kd.pair Kd.string (Kd.pair Kd.string (Kd.pair Kd.bool (Kd.pair (Kd.int .i64) (Kd.int .i64))))) (fun x : TM => (x.f, x.t, x.c, x.fi, x.ho))
theorem kTM_open {w : World} {x : TM} {cs : List Value} (h : kTM.K w x cs) : cs = x.cells := by
  obtain ⟨_, _, rfl, rfl, ⟨_, _, rfl, rfl, ⟨_, _, rfl, rfl, ⟨_, _, rfl, rfl, rfl⟩⟩⟩⟩ := h
  exact rfl
theorem kTM_mkM (w : World) (base : Nat) (ok : Nat → Prop) (x : TM) : kTM.M w base ok x x.cells :=
  ⟨[.string x.f], [.string x.t, .bool x.c, .int .i64 x.fi, .int .i64 x.ho], rfl, rfl, ⟨[.string x.t], [.bool x.c, .int .i64 x.fi, .int .i64 x.ho], rfl, rfl, ⟨[.bool x.c], [.int .i64 x.fi, .int .i64 x.ho], rfl, rfl, ⟨[.int .i64 x.fi], [.int .i64 x.ho], rfl, rfl, rfl⟩⟩⟩⟩
def rdTM (xs : List TM) (i : Nat) : TM := xs.getD i zTM
theorem info48 : (Try.prog.info? 48).map (fun i => (i.zero, i.size, i.bytes)) = some (some (.agg #[.string ByteArray.empty, .string ByteArray.empty, .bool false, .int .i64 0, .int .i64 0]), 5, 56) := by kernel_rfl
/-- The provider's block: it has been given the list. -/
def GV (w : World) (g base : Nat) (xs : List TM) : Prop := ∃ v, w.heap[g]? = some (.cells #[v] 112 (0, 0)) ∧ Kd.R kTM 48 w base (fun _ => True) v xs ∧ base ≤ g

/-- An append as one step of a region that draws: the new slice by its parts. -/
theorem R_append_sl {P : Program} {ops : Array Oper} {o : Oper} {a : Act} {Q : Exit → Act → World → Prop} {Kc : Act → World → Prop} {α : Type} (d : Kd α) {w0 W : World} (base : Nat) (hw : Region.wanted o (yielded ops a.tmps) = true) (s x : Operand) (t e : TypeId) (z : Value) (bytes : Nat)
    (ho : o.op = .call { callee := .builtin .append, args := #[s, x], argTypes := #[t, t] })
    (ht : P.underlying t = some (.slice e)) (hinfo : (P.info? e).map (fun i => (i.zero, i.size, i.bytes)) = some (some z, d.sz, bytes)) (hz : z.cells.size = d.sz) (hs0 : 0 < d.sz) (hb0 : 0 < bytes)
    (v : Value) (xs : List α) (p : α) (cs : List Value) (ok okp : Nat → Prop) (hs : a.eval s = v) (hx : a.eval x = .slice (some ⟨W.heap.size, 0, none⟩) 1 1) (hp : d.M W base okp p cs) (hokp : ∀ k, okp k → ok k ∧ some k ≠ v.ownBlock) (hfresh : ∀ k, W.heap.size ≤ k → ok k)
    (HO : d.R e W base ok v xs) (HB : Below base w0 W) (hbase : base ≤ W.heap.size) (hl : (xs.length + 1) * bytes ≤ 140737488355328)
    (h : ∀ A c w1, d.R e w1 base ok (.slice A (xs.length + 1) c) (xs ++ [p]) → Below base w0 w1 → W.grownBy w1 v.ownBlock → Kc (a.put o.dst (.slice A (xs.length + 1) c)) w1) :
    if Region.wanted o (yielded ops a.tmps) = true then Oper.wp P o a (W.alloc (.cells cs.toArray e)) Kc Q else Kc (a.put o.dst undef) (W.alloc (.cells cs.toArray e)) := by
  refine Kd.R_append_step d (w0 := w0) base hw s x t e z bytes ho ht hinfo hz hs0 hb0 v xs p cs ok okp hs hx hp hokp hfresh HO HB hbase hl (fun v1 w1 h1 h2 h3 _ => ?_)
  obtain ⟨A, c, hv⟩ := Kd.R_slice h1
  rw [List.length_append, List.length_singleton] at hv
  subst hv
  exact h A c w1 h1 h2 h3

def given_set.T1 : Bool × List (List Nat × List Nat) := (true, [([], []), ([], []), ([1], [1]), ([2], [2]), ([3], [3]), ([], []), ([5], [5]), ([], []), ([7], [7]), ([], []), ([9], [9]), ([], []), ([11], [11]), ([], []), ([13], [13]), ([6, 8, 10, 12, 14], [6, 8, 10, 12, 14]), ([15], [15]), ([4, 16], [4, 16]), ([0, 0, 1, 2, 3, 4, 5, 6, 7, 8, 9, 10, 11, 12, 13, 14, 15, 16, 17], [0]), ([18, 0, 1, 2, 3, 4, 5, 6, 7, 8, 9, 10, 11, 12, 13, 14, 15, 16, 17], [18]), ([19, 17, 17, 0, 1, 2, 3, 4, 5, 6, 7, 8, 9, 10, 11, 12, 13, 14, 15, 16, 17], [17, 19])])
def given_set.B1 : List Nat := [0, 0, 2, 6, 14, 0, 32, 0, 128, 0, 512, 0, 2048, 0, 8192, 32736, 65504, 131070, 262143, 524287, 1048575]
theorem given_set.tab1 : rtab .any (opsOf Try.f163 1) = given_set.T1 := by kernel_rfl
theorem given_set.bits1 : waitsOk given_set.T1.2 given_set.B1 = true := by kernel_rfl
set_option maxRecDepth 100000 in
set_option maxHeartbeats 4000000 in
theorem given_set (g base : Nat) (xs : List TM) (f t : ByteArray) (c : Bool) (fi ho : Int) (w0 w : World) (h : GV w g base xs) (hB : Below base w0 w) (hl : xs.length ≤ 1000000000) :
    Calls Try.prog 163 #[.pointer (some ⟨g, 0, none⟩), .agg #[.string f, .string t, .bool c, .int .i64 fi, .int .i64 ho]] w fun e w' => e = .returned (.tuple #[]) ∧ GV w' g base (xs ++ [⟨f, t, c, fi, ho⟩]) ∧ Below base w0 w' := by
  obtain ⟨v, hg, hR, hbg⟩ := h
  have hlt := blk_lt hg
  have HG := Aside0.mk (blk_drew (blk_alloc hg (.cells #[.string f, .string t, .bool c, .int .i64 fi, .int .i64 ho] 179)))
  have HX := Aside0.mk (blk_drew (heap_alloc_new w (.cells #[.string f, .string t, .bool c, .int .i64 fi, .int .i64 ho] 179)))
  have HR := Aside0.mk (Kd.R_drew (Kd.R_alloc hR (.cells #[.string f, .string t, .bool c, .int .i64 fi, .int .i64 ho] 179)))
  have HB := Aside0.mk (below_drew (hB.alloc (by omega) (.cells #[.string f, .string t, .bool c, .int .i64 fi, .int .i64 ho] 179)))
  clear hR hB
  have KS := Aside0.mk (fun (z : World) (h1 : z.heap[g]? = some (.cells #[v] 112 (0, 0))) (h2 : z.heap[w.heap.size]? = some (.cells #[.string f, .string t, .bool c, .int .i64 fi, .int .i64 ho] 179 (0, 0))) => (⟨(blk_cell h1 0).trans rfl, (blk_cell h2 0).trans rfl, (blk_cell h2 1).trans rfl, (blk_cell h2 2).trans rfl, (blk_cell h2 3).trans rfl, (blk_cell h2 4).trans rfl⟩ : z.cell? ⟨g, 0, none⟩ = some v ∧ z.cell? ⟨w.heap.size, 0, none⟩ = some (.string f) ∧ z.cell? ⟨w.heap.size, 1, none⟩ = some (.string t) ∧ z.cell? ⟨w.heap.size, 2, none⟩ = some (.bool c) ∧ z.cell? ⟨w.heap.size, 3, none⟩ = some (.int .i64 fi) ∧ z.cell? ⟨w.heap.size, 4, none⟩ = some (.int .i64 ho)))
  have K0 := KS.out _ HG.out HX.out
  have KA := Aside0.mk (fun o => KS.out _ (blk_drew (blk_alloc (w := (w.alloc (.cells #[.string f, .string t, .bool c, .int .i64 fi, .int .i64 ho] 179))) HG.out o)) (blk_drew (blk_alloc (w := (w.alloc (.cells #[.string f, .string t, .bool c, .int .i64 fi, .int .i64 ho] 179))) HX.out o)))
  have N1 := Aside0.mk (show some g ≠ v.ownBlock from OwnRow.ne_block HR.out.2 HG.out (by decide))
  have N2 := Aside0.mk (show some w.heap.size ≠ v.ownBlock from OwnRow.ne_block HR.out.2 HX.out (by decide))
  go_enter Try.func163, Try.ntmps163
  go_wp2_with fail
  refine start_ (n := 21) (S := fun w' => w'.cell? ⟨g, 0, none⟩ = some v ∧ w'.cell? ⟨w.heap.size, 0, none⟩ = some (.string f) ∧ w'.cell? ⟨w.heap.size, 1, none⟩ = some (.string t) ∧ w'.cell? ⟨w.heap.size, 2, none⟩ = some (.bool c) ∧ w'.cell? ⟨w.heap.size, 3, none⟩ = some (.int .i64 fi) ∧ w'.cell? ⟨w.heap.size, 4, none⟩ = some (.int .i64 ho)) (ds := [20]) #[false, false, false, false, false, false, false, false, false, false, false, false, false, false, false, false, false, false, false, false, false] (by kernel_rfl) rfl rfl K0 (fun hHeld => ?_)
  refine with_tabW given_set.tab1 given_set.bits1 (fun HT_ HW_ => ?_)
  generalize (w.alloc (.cells #[.string f, .string t, .bool c, .int .i64 fi, .int .i64 ho] 179)).drew = W at *
  -- 0: t4 := move t0 : 110 
  refine pure_ (i := 0) (N := some 4) (v := ?_) (a' := ?_) #[true, false, false, false, false, false, false, false, false, false, false, false, false, false, false, false, false, false, false, false, false] rfl rfl (any_of HT_.out (by kernel_rfl)) (fun _ _ _ h => h) (Or.inl ⟨by rfl, ?_⟩) ?_ ?_
  rotate_left
  · intro w'
    go_simp
    with_reducible rfl
  rotate_left
  · simp only [Act.put, List.setIfInBounds_toArray, List.set_cons_zero, List.set_cons_succ, i64_w, i32_w]
    rfl
  -- 1: t5 := move t0 : 110 
  refine pure_ (i := 1) (N := some 5) (v := ?_) (a' := ?_) #[true, true, false, false, false, false, false, false, false, false, false, false, false, false, false, false, false, false, false, false, false] rfl rfl (any_of HT_.out (by kernel_rfl)) (fun _ _ _ h => h) (Or.inl ⟨by rfl, ?_⟩) ?_ ?_
  rotate_left
  · intro w'
    go_simp
    with_reducible rfl
  rotate_left
  · simp only [Act.put, List.setIfInBounds_toArray, List.set_cons_zero, List.set_cons_succ, i64_w, i32_w]
    rfl
  -- 2: t6 := nilCheck t5 : 0 
  refine pure_ (i := 2) (N := some 6) (v := ?_) (a' := ?_) #[true, true, true, false, false, false, false, false, false, false, false, false, false, false, false, false, false, false, false, false, false] rfl rfl (any_of HT_.out (by kernel_rfl)) (fun _ _ _ h => h) (Or.inl ⟨by rfl, ?_⟩) ?_ ?_
  rotate_left
  · intro w'
    go_simp
    with_reducible rfl
  rotate_left
  · simp only [Act.put, List.setIfInBounds_toArray, List.set_cons_zero, List.set_cons_succ, i64_w, i32_w]
    rfl
  -- 3: t7 := fieldAddr 112 t6 0 : 0 
  refine pure_ (i := 3) (N := some 7) (v := ?_) (a' := ?_) #[true, true, true, true, false, false, false, false, false, false, false, false, false, false, false, false, false, false, false, false, false] rfl rfl (any_of HT_.out (by kernel_rfl)) (fun _ _ _ h => h) (Or.inl ⟨by rfl, ?_⟩) ?_ ?_
  rotate_left
  · intro w'
    go_simp
    with_reducible rfl
  rotate_left
  · simp only [Act.put, List.setIfInBounds_toArray, List.set_cons_zero, List.set_cons_succ, i64_w, i32_w]
    rfl
  -- 5: t9 := fieldAddr 179 t3 0 : 0 
  refine pure_ (i := 5) (N := some 9) (v := ?_) (a' := ?_) #[true, true, true, true, false, true, false, false, false, false, false, false, false, false, false, false, false, false, false, false, false] rfl rfl (any_of HT_.out (by kernel_rfl)) (fun _ _ _ h => h) (Or.inl ⟨by rfl, ?_⟩) ?_ ?_
  rotate_left
  · intro w'
    go_simp
    with_reducible rfl
  rotate_left
  · simp only [Act.put, List.setIfInBounds_toArray, List.set_cons_zero, List.set_cons_succ, i64_w, i32_w]
    rfl
  -- 7: t11 := fieldAddr 179 t3 1 : 0 
  refine pure_ (i := 7) (N := some 11) (v := ?_) (a' := ?_) #[true, true, true, true, false, true, false, true, false, false, false, false, false, false, false, false, false, false, false, false, false] rfl rfl (any_of HT_.out (by kernel_rfl)) (fun _ _ _ h => h) (Or.inl ⟨by rfl, ?_⟩) ?_ ?_
  rotate_left
  · intro w'
    go_simp
    with_reducible rfl
  rotate_left
  · simp only [Act.put, List.setIfInBounds_toArray, List.set_cons_zero, List.set_cons_succ, i64_w, i32_w]
    rfl
  -- 9: t13 := fieldAddr 179 t3 2 : 0 
  refine pure_ (i := 9) (N := some 13) (v := ?_) (a' := ?_) #[true, true, true, true, false, true, false, true, false, true, false, false, false, false, false, false, false, false, false, false, false] rfl rfl (any_of HT_.out (by kernel_rfl)) (fun _ _ _ h => h) (Or.inl ⟨by rfl, ?_⟩) ?_ ?_
  rotate_left
  · intro w'
    go_simp
    with_reducible rfl
  rotate_left
  · simp only [Act.put, List.setIfInBounds_toArray, List.set_cons_zero, List.set_cons_succ, i64_w, i32_w]
    rfl
  -- 11: t15 := fieldAddr 179 t3 3 : 0 
  refine pure_ (i := 11) (N := some 15) (v := ?_) (a' := ?_) #[true, true, true, true, false, true, false, true, false, true, false, true, false, false, false, false, false, false, false, false, false] rfl rfl (any_of HT_.out (by kernel_rfl)) (fun _ _ _ h => h) (Or.inl ⟨by rfl, ?_⟩) ?_ ?_
  rotate_left
  · intro w'
    go_simp
    with_reducible rfl
  rotate_left
  · simp only [Act.put, List.setIfInBounds_toArray, List.set_cons_zero, List.set_cons_succ, i64_w, i32_w]
    rfl
  -- 13: t17 := fieldAddr 179 t3 4 : 0 
  refine pure_ (i := 13) (N := some 17) (v := ?_) (a' := ?_) #[true, true, true, true, false, true, false, true, false, true, false, true, false, true, false, false, false, false, false, false, false] rfl rfl (any_of HT_.out (by kernel_rfl)) (fun _ _ _ h => h) (Or.inl ⟨by rfl, ?_⟩) ?_ ?_
  rotate_left
  · intro w'
    go_simp
    with_reducible rfl
  rotate_left
  · simp only [Act.put, List.setIfInBounds_toArray, List.set_cons_zero, List.set_cons_succ, i64_w, i32_w]
    rfl
  -- 4: t8 := load 45 t7 : 45 
  refine take_ (i := 4) (N := some 8) (v := ?_) (a' := ?_) #[true, true, true, true, true, true, false, true, false, true, false, true, false, true, false, false, false, false, false, false, false] rfl rfl (take_ofW HT_.out HW_.out (by kernel_rfl)) (fun _ _ _ h => h) (Or.inl ⟨by rfl, ?_⟩) hHeld ?_ ?_
  rotate_left
  · rintro w' ⟨s0, s1, s2, s3, s4, s5⟩
    go_simp
    with_reducible rfl
  rotate_left
  · simp only [Act.put, List.setIfInBounds_toArray, List.set_cons_zero, List.set_cons_succ, i64_w, i32_w]
    rfl
  -- 6: t10 := load 9 t9 : 9 
  refine take_ (i := 6) (N := some 10) (v := ?_) (a' := ?_) #[true, true, true, true, true, true, true, true, false, true, false, true, false, true, false, false, false, false, false, false, false] rfl rfl (take_ofW HT_.out HW_.out (by kernel_rfl)) (fun _ _ _ h => h) (Or.inl ⟨by rfl, ?_⟩) hHeld ?_ ?_
  rotate_left
  · rintro w' ⟨s0, s1, s2, s3, s4, s5⟩
    go_simp
    with_reducible rfl
  rotate_left
  · simp only [Act.put, List.setIfInBounds_toArray, List.set_cons_zero, List.set_cons_succ, i64_w, i32_w]
    rfl
  -- 8: t12 := load 9 t11 : 9 
  refine take_ (i := 8) (N := some 12) (v := ?_) (a' := ?_) #[true, true, true, true, true, true, true, true, true, true, false, true, false, true, false, false, false, false, false, false, false] rfl rfl (take_ofW HT_.out HW_.out (by kernel_rfl)) (fun _ _ _ h => h) (Or.inl ⟨by rfl, ?_⟩) hHeld ?_ ?_
  rotate_left
  · rintro w' ⟨s0, s1, s2, s3, s4, s5⟩
    go_simp
    with_reducible rfl
  rotate_left
  · simp only [Act.put, List.setIfInBounds_toArray, List.set_cons_zero, List.set_cons_succ, i64_w, i32_w]
    rfl
  -- 10: t14 := load 4 t13 : 4 
  refine take_ (i := 10) (N := some 14) (v := ?_) (a' := ?_) #[true, true, true, true, true, true, true, true, true, true, true, true, false, true, false, false, false, false, false, false, false] rfl rfl (take_ofW HT_.out HW_.out (by kernel_rfl)) (fun _ _ _ h => h) (Or.inl ⟨by rfl, ?_⟩) hHeld ?_ ?_
  rotate_left
  · rintro w' ⟨s0, s1, s2, s3, s4, s5⟩
    go_simp
    with_reducible rfl
  rotate_left
  · simp only [Act.put, List.setIfInBounds_toArray, List.set_cons_zero, List.set_cons_succ, i64_w, i32_w]
    rfl
  -- 12: t16 := load 113 t15 : 113 
  refine take_ (i := 12) (N := some 16) (v := ?_) (a' := ?_) #[true, true, true, true, true, true, true, true, true, true, true, true, true, true, false, false, false, false, false, false, false] rfl rfl (take_ofW HT_.out HW_.out (by kernel_rfl)) (fun _ _ _ h => h) (Or.inl ⟨by rfl, ?_⟩) hHeld ?_ ?_
  rotate_left
  · rintro w' ⟨s0, s1, s2, s3, s4, s5⟩
    go_simp
    with_reducible rfl
  rotate_left
  · simp only [Act.put, List.setIfInBounds_toArray, List.set_cons_zero, List.set_cons_succ, i64_w, i32_w]
    rfl
  -- 14: t18 := load 113 t17 : 113 
  refine take_ (i := 14) (N := some 18) (v := ?_) (a' := ?_) #[true, true, true, true, true, true, true, true, true, true, true, true, true, true, true, false, false, false, false, false, false] rfl rfl (take_ofW HT_.out HW_.out (by kernel_rfl)) (fun _ _ _ h => h) (Or.inl ⟨by rfl, ?_⟩) hHeld ?_ ?_
  rotate_left
  · rintro w' ⟨s0, s1, s2, s3, s4, s5⟩
    go_simp
    with_reducible rfl
  rotate_left
  · simp only [Act.put, List.setIfInBounds_toArray, List.set_cons_zero, List.set_cons_succ, i64_w, i32_w]
    rfl
  -- 15: t19 := build 48 [(0, t10), (1, t12), (2, t14), (3, t16), (4, t18)] : 48 
  refine pure_ (i := 15) (N := some 19) (v := ?_) (a' := ?_) #[true, true, true, true, true, true, true, true, true, true, true, true, true, true, true, true, false, false, false, false, false] rfl rfl (any_of HT_.out (by kernel_rfl)) (fun _ _ _ h => h) (Or.inl ⟨by rfl, ?_⟩) ?_ ?_
  rotate_left
  · intro w'
    go_simp
    with_reducible rfl
  rotate_left
  · simp only [Act.put, List.setIfInBounds_toArray, List.set_cons_zero, List.set_cons_succ, i64_w, i32_w]
    rfl
  -- 16: t20 := buildSlice 45 1 [(0, t19)] : 45 
  refine one_ (i := 16) (N := some 20) #[true, true, true, true, true, true, true, true, true, true, true, true, true, true, true, true, true, false, false, false, false] rfl rfl (one_of HT_.out (by kernel_rfl)) (by decide) (fun K hK => ?_)
  refine event_step (v := .slice (some ⟨W.heap.size, 0, none⟩) 1 1) (w1 := W.alloc (.cells #[.string f, .string t, .bool c, .int .i64 fi, .int .i64 ho] 48)) (by rfl) (by first | (go_simp; done) | (go_simp; rfl)) ?_
  refine hK.out _ _ (KS.out _ (blk_alloc HG.out _) (blk_alloc HX.out _)) (fun hHeld => ?_)
  clear hK K
  simp only [Act.put, List.setIfInBounds_toArray, List.set_cons_zero, List.set_cons_succ]
  -- 17: t21 := call (Callee.builtin append) [t8, t20] : 45 
  refine one_ (i := 17) (N := some 21) #[true, true, true, true, true, true, true, true, true, true, true, true, true, true, true, true, true, true, false, false, false] rfl rfl (one_of HT_.out (by kernel_rfl)) (by decide) (fun K hK => ?_)
  refine R_append_sl kTM (w0 := w0) (W := W) base (by rfl) (.tmp 8) (.tmp 20) 45 48 _ 56 (by rfl) Try.underlying45 info48 rfl (by decide) (by decide) v xs ⟨f, t, c, fi, ho⟩ [.string f, .string t, .bool c, .int .i64 fi, .int .i64 ho] (fun _ => True) (fun _ => False) (by rfl) (by rfl) (kTM_mkM _ _ _ ⟨f, t, c, fi, ho⟩) (fun _ hk => hk.elim) (fun _ _ => trivial) HR.out HB.out (by have := blk_lt HG.out; omega) (by omega) ?_
  intro A1 c1 w1 hR1 hB1 hg1
  have G1 := Aside0.mk (blk_grown HG.out hg1 N1.out)
  have X1 := Aside0.mk (blk_grown HX.out hg1 N2.out)
  have HR1 := Aside0.mk hR1
  have HB1 := Aside0.mk hB1
  clear hR1 hB1 hg1
  refine hK.out _ _ (KS.out _ G1.out X1.out) (fun hHeld => ?_)
  clear hK K
  simp only [Act.put, List.setIfInBounds_toArray, List.set_cons_zero, List.set_cons_succ]
  -- 18: t22 := nilCheck t4 : 0 
  refine pure_ (i := 18) (N := some 22) (v := ?_) (a' := ?_) #[true, true, true, true, true, true, true, true, true, true, true, true, true, true, true, true, true, true, true, false, false] rfl rfl (any_of HT_.out (by kernel_rfl)) (fun _ _ _ h => h) (Or.inl ⟨by rfl, ?_⟩) ?_ ?_
  rotate_left
  · intro w'
    go_simp
    with_reducible rfl
  rotate_left
  · simp only [Act.put, List.setIfInBounds_toArray, List.set_cons_zero, List.set_cons_succ, i64_w, i32_w]
    rfl
  -- 19: t23 := fieldAddr 112 t22 0 : 0 
  refine pure_ (i := 19) (N := some 23) (v := ?_) (a' := ?_) #[true, true, true, true, true, true, true, true, true, true, true, true, true, true, true, true, true, true, true, true, false] rfl rfl (any_of HT_.out (by kernel_rfl)) (fun _ _ _ h => h) (Or.inl ⟨by rfl, ?_⟩) ?_ ?_
  rotate_left
  · intro w'
    go_simp
    with_reducible rfl
  rotate_left
  · simp only [Act.put, List.setIfInBounds_toArray, List.set_cons_zero, List.set_cons_succ, i64_w, i32_w]
    rfl
  -- 20: _ := store 45 t23 t21 : 0 
  refine last_ (i := 20) (N := none) #[true, true, true, true, true, true, true, true, true, true, true, true, true, true, true, true, true, true, true, true, true] rfl rfl (one_of HT_.out (by kernel_rfl)) (by decide) (fun K hK => ?_)
  have s1 := (blk_cell G1.out 0).trans rfl
  have f1 := blk_frozen G1.out 0
  refine skip_ (w1 := w1.setCell ⟨g, 0, none⟩ (.slice A1 (xs.length + 1) c1)) (by rfl) rfl (by first | (go_simp; done) | (go_simp; rfl)) ?_
  refine hK.out _ _ ?_
  clear hK K
  refine done_ (done_of HT_.out (by kernel_rfl)) ?_
  go_wp2
  go_end0
  exact ⟨rfl, ⟨_, blk_set G1.out 0 _, Kd.R_set HR1.out G1.out (by decide) 0 _, hbg⟩, HB1.out.setCell hbg _⟩
end Go.Proofs.Ytoigekmdicepnaa
