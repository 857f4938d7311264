/- Contracts: the options of a timer; a timer that is set with its options. -/
import Derived.Test.YtoigekmdicepnaaTf
set_option linter.unusedVariables false
set_option linter.unusedSimpArgs false
namespace Go.Proofs.Ytoigekmdicepnaa
open Go.RowKit Go.Proofs.YtoigekmdicepnaaW.PrintWords Go.Proofs.YtoigekmdicepnaaW.PrintLast Go.Proofs.YtoigekmdicepnaaW.PrintMore

def timerSet_t1p.T4 : Bool × List (List Nat × List Nat) := (true, [([], []), ([], []), ([1], [1]), ([], []), ([], []), ([4], [4]), ([5], [5]), ([], []), ([7, 6], [7]), ([6, 8], [6, 8]), ([0, 2, 3, 9, 8], [0, 2, 3, 9])])
def timerSet_t1p.B4 : List Nat := [0, 0, 2, 0, 0, 16, 48, 0, 240, 496, 1023]
theorem timerSet_t1p.tab4 : rtab .any (opsOf Try.f54 4) = timerSet_t1p.T4 := by kernel_rfl
theorem timerSet_t1p.bits4 : waitsOk timerSet_t1p.T4.2 timerSet_t1p.B4 = true := by kernel_rfl
set_option maxRecDepth 100000 in
set_option maxHeartbeats 4000000 in
theorem timerSet_t1p (fam tag : ByteArray) (op at_ hat : Int) (g base : Nat) (xs : List TM) (w0 w : World) (hG : GV w g base xs) (hB : Below base w0 w) (hl : xs.length ≤ 1000000000) :
    Calls Try.prog 54 #[.pointer (some ⟨g, 0, none⟩), .agg #[.bool true, .string fam, .int .i64 op, .int .i64 at_, .string tag, .bool true, .int .i64 1, .int .i64 hat], .int .i64 at_, .agg #[.string fam], .agg #[.string fam]] w fun e w' => e = .returned (.tuple #[]) ∧ GV w' g base (xs ++ [stepTM fam tag true at_ 1 hat]) ∧ Below base w0 w' := by
  have HBS := Aside0.mk (show base ≤ w.heap.size by obtain ⟨v, h1, _, h3⟩ := hG; have := blk_lt h1; omega)
  have HW := Aside0.mk (below_alloc (below_alloc (below_alloc (Below.refl w.heap.size w) (.cells #[.bool true, .string fam, .int .i64 op, .int .i64 at_, .string tag, .bool true, .int .i64 1, .int .i64 hat] 44)) (.cells #[.string fam] 115)) (.cells #[.string fam] 117))
  have B1 := Aside0.mk (blk_alloc (blk_alloc (heap_alloc_new w (.cells #[.bool true, .string fam, .int .i64 op, .int .i64 at_, .string tag, .bool true, .int .i64 1, .int .i64 hat] 44)) (.cells #[.string fam] 115)) (.cells #[.string fam] 117))
  have B2 := Aside0.mk (blk_alloc (heap_alloc_new (w.alloc (.cells #[.bool true, .string fam, .int .i64 op, .int .i64 at_, .string tag, .bool true, .int .i64 1, .int .i64 hat] 44)) (.cells #[.string fam] 115)) (.cells #[.string fam] 117))
  have B3 := Aside0.mk (heap_alloc_new ((w.alloc (.cells #[.bool true, .string fam, .int .i64 op, .int .i64 at_, .string tag, .bool true, .int .i64 1, .int .i64 hat] 44)).alloc (.cells #[.string fam] 115)) (.cells #[.string fam] 117))
  simp only [World.size_alloc] at B2 B3
  have HG := Aside0.mk (hG.below HW.out)
  have HB := Aside0.mk (below_then hB HBS.out HW.out)
  have HL := Aside0.mk hl
  clear hG hB hl
  have KS := Aside0.mk (fun (z : World) (h1 : z.heap[w.heap.size]? = some (.cells #[.bool true, .string fam, .int .i64 op, .int .i64 at_, .string tag, .bool true, .int .i64 1, .int .i64 hat] 44 (0, 0))) (h2 : z.heap[w.heap.size + 1 + 1]? = some (.cells #[.string fam] 117 (0, 0))) => (⟨(blk_cell h2 0).trans rfl, (blk_cell h1 4).trans rfl⟩ : z.cell? ⟨w.heap.size + 1 + 1, 0, none⟩ = some (.string fam) ∧ z.cell? ⟨w.heap.size, 4, none⟩ = some (.string tag)))
  have B1 := Aside0.mk (blk_drew B1.out)
  have B3 := Aside0.mk (blk_drew B3.out)
  have K0 := KS.out _ B1.out B3.out
  have HG := Aside0.mk (HG.out.below (below_drew (Below.refl _ _)))
  have HB := Aside0.mk (below_drew HB.out)
  have HBS := Aside0.mk (Nat.le_trans HBS.out (below_drew HW.out).size)
  clear HW B2
  go_enter Try.func54, Try.ntmps54
  go_wp2_with fail
  refine start_ (n := 11) (S := fun w' => w'.cell? ⟨w.heap.size + 1 + 1, 0, none⟩ = some (.string fam) ∧ w'.cell? ⟨w.heap.size, 4, none⟩ = some (.string tag)) (ds := [10]) #[false, false, false, false, false, false, false, false, false, false, false] (by kernel_rfl) rfl rfl K0 (fun hHeld => ?_)
  refine with_tabW timerSet_t1p.tab4 timerSet_t1p.bits4 (fun HT_ HW_ => ?_)
  generalize (((w.alloc (.cells #[.bool true, .string fam, .int .i64 op, .int .i64 at_, .string tag, .bool true, .int .i64 1, .int .i64 hat] 44)).alloc (.cells #[.string fam] 115)).alloc (.cells #[.string fam] 117)).drew = W at *
  -- 1: t31 := move t0 : 110 
  refine pure_ (i := 1) (N := some 31) (v := ?_) (a' := ?_) #[false, true, false, false, false, false, false, false, false, false, false] rfl rfl (any_of HT_.out (by kernel_rfl)) (fun _ _ _ h => h) (Or.inl ⟨by rfl, ?_⟩) ?_ ?_
  rotate_left
  · intro w'
    go_simp
    with_reducible rfl
  rotate_left
  · simp only [Act.put, List.setIfInBounds_toArray, List.set_cons_zero, List.set_cons_succ, i64_w, i32_w]
    rfl
  -- 2: t32 := makeInterface 110 t31 : 176 
  refine pure_ (i := 2) (N := some 32) (v := ?_) (a' := ?_) #[false, true, true, false, false, false, false, false, false, false, false] rfl rfl (any_of HT_.out (by kernel_rfl)) (fun _ _ _ h => h) (Or.inl ⟨by rfl, ?_⟩) ?_ ?_
  rotate_left
  · intro w'
    go_simp
    with_reducible rfl
  rotate_left
  · simp only [Act.put, List.setIfInBounds_toArray, List.set_cons_zero, List.set_cons_succ, i64_w, i32_w]
    rfl
  -- 3: t33 := move t2 : 113 
  refine pure_ (i := 3) (N := some 33) (v := ?_) (a' := ?_) #[false, true, true, true, false, false, false, false, false, false, false] rfl rfl (any_of HT_.out (by kernel_rfl)) (fun _ _ _ h => h) (Or.inl ⟨by rfl, ?_⟩) ?_ ?_
  rotate_left
  · intro w'
    go_simp
    with_reducible rfl
  rotate_left
  · simp only [Act.put, List.setIfInBounds_toArray, List.set_cons_zero, List.set_cons_succ, i64_w, i32_w]
    rfl
  -- 4: t34 := fieldAddr 44 t6 4 : 0 
  refine pure_ (i := 4) (N := some 34) (v := ?_) (a' := ?_) #[false, true, true, true, true, false, false, false, false, false, false] rfl rfl (any_of HT_.out (by kernel_rfl)) (fun _ _ _ h => h) (Or.inl ⟨by rfl, ?_⟩) ?_ ?_
  rotate_left
  · intro w'
    go_simp
    with_reducible rfl
  rotate_left
  · simp only [Act.put, List.setIfInBounds_toArray, List.set_cons_zero, List.set_cons_succ, i64_w, i32_w]
    rfl
  -- 7: t37 := move t10 : 113 
  refine pure_ (i := 7) (N := some 37) (v := ?_) (a' := ?_) #[false, true, true, true, true, false, false, true, false, false, false] rfl rfl (any_of HT_.out (by kernel_rfl)) (fun _ _ _ h => h) (Or.inl ⟨by rfl, ?_⟩) ?_ ?_
  rotate_left
  · intro w'
    go_simp
    with_reducible rfl
  rotate_left
  · simp only [Act.put, List.setIfInBounds_toArray, List.set_cons_zero, List.set_cons_succ, i64_w, i32_w]
    rfl
  -- 0: t30 := load 117 t9 : 117 
  refine take_ (i := 0) (N := some 30) (v := ?_) (a' := ?_) #[true, true, true, true, true, false, false, true, false, false, false] rfl rfl (take_ofW HT_.out HW_.out (by kernel_rfl)) (fun _ _ _ h => h) (Or.inl ⟨by rfl, ?_⟩) hHeld ?_ ?_
  rotate_left
  · rintro w' ⟨s0, s1⟩
    go_simp
    with_reducible rfl
  rotate_left
  · simp only [Act.put, List.setIfInBounds_toArray, List.set_cons_zero, List.set_cons_succ, i64_w, i32_w]
    rfl
  -- 5: t35 := load 9 t34 : 9 
  refine take_ (i := 5) (N := some 35) (v := ?_) (a' := ?_) #[true, true, true, true, true, true, false, true, false, false, false] rfl rfl (take_ofW HT_.out HW_.out (by kernel_rfl)) (fun _ _ _ h => h) (Or.inl ⟨by rfl, ?_⟩) hHeld ?_ ?_
  rotate_left
  · rintro w' ⟨s0, s1⟩
    go_simp
    with_reducible rfl
  rotate_left
  · simp only [Act.put, List.setIfInBounds_toArray, List.set_cons_zero, List.set_cons_succ, i64_w, i32_w]
    rfl
  -- 6: t36 := call (Callee.value F91) [t35] : 182 
  refine one_ (i := 6) (N := some 36) #[true, true, true, true, true, true, true, true, false, false, false] rfl rfl (one_of HT_.out (by kernel_rfl)) (by decide) (fun K hK => ?_)
  refine goes_ Try.func91 (by kernel_rfl) rfl #[.string tag] (by rfl) rfl rfl (by (try simp only [List.map_toArray, List.map_cons, List.map_nil]); first | done | rfl) ?_
  refine (withTag_any tag _).mono ?_
  rintro e_ W1 ⟨b1, rfl, ho1, hb1⟩
  refine ⟨_, rfl, ?_⟩
  have B1 := Aside0.mk (blk_below B1.out hb1)
  have B3 := Aside0.mk (blk_below B3.out hb1)
  have HG := Aside0.mk (HG.out.below hb1)
  have HB := Aside0.mk (below_then HB.out HBS.out hb1)
  have HBS := Aside0.mk (Nat.le_trans HBS.out hb1.size)
  have HO1 := Aside0.mk ho1
  clear hb1 ho1
  refine hK.out _ _ (KS.out _ B1.out B3.out) (fun hHeld => ?_)
  clear hK K
  refine norm_ (a' := ?_) ?_ ?_
  rotate_left
  · show Act.put _ (some 36) _ = _
    simp only [Act.put, List.setIfInBounds_toArray, List.set_cons_zero, List.set_cons_succ, i64_w, i32_w]
    rfl
  -- 8: t38 := call (Callee.value F92) [t37] : 182 
  refine one_ (i := 8) (N := some 38) #[true, true, true, true, true, true, true, true, true, false, false] rfl rfl (one_of HT_.out (by kernel_rfl)) (by decide) (fun K hK => ?_)
  refine goes_ Try.func92 (by kernel_rfl) rfl #[.int .i64 hat] (by rfl) rfl rfl (by (try simp only [List.map_toArray, List.map_cons, List.map_nil]); first | done | rfl) ?_
  refine (withHold_any hat _).mono ?_
  rintro e_ W2 ⟨b2, rfl, ho2, hb2⟩
  refine ⟨_, rfl, ?_⟩
  have B1 := Aside0.mk (blk_below B1.out hb2)
  have B3 := Aside0.mk (blk_below B3.out hb2)
  have HG := Aside0.mk (HG.out.below hb2)
  have HB := Aside0.mk (below_then HB.out HBS.out hb2)
  have HBS := Aside0.mk (Nat.le_trans HBS.out hb2.size)
  have HO1 := Aside0.mk (Op3.ok_below HO1.out hb2)
  have HO2 := Aside0.mk ho2
  clear hb2 ho2
  refine hK.out _ _ (KS.out _ B1.out B3.out) (fun hHeld => ?_)
  clear hK K
  refine norm_ (a' := ?_) ?_ ?_
  rotate_left
  · show Act.put _ (some 38) _ = _
    simp only [Act.put, List.setIfInBounds_toArray, List.set_cons_zero, List.set_cons_succ, i64_w, i32_w]
    rfl
  -- 9: t39 := buildSlice 237 2 [(0, t36), (1, t38)] : 237 
  refine one_ (i := 9) (N := some 39) #[true, true, true, true, true, true, true, true, true, true, false] rfl rfl (one_of HT_.out (by kernel_rfl)) (by decide) (fun K hK => ?_)
  refine event_step (v := .slice (some ⟨W2.heap.size, 0, none⟩) 2 2) (w1 := W2.alloc (.cells #[.func (.func 125) #[] #[.pointer (some ⟨b1, 0, none⟩)], .func (.func 126) #[] #[.pointer (some ⟨b2, 0, none⟩)]] 182)) (by rfl) (by first | (go_simp; done) | (go_simp; rfl)) ?_
  have HC := Aside0.mk (C_lit (enc := Op3.val) (h1 := Op3.val_one) (xs := [Op3.tag b1 tag, Op3.hold b2 hat]) (heap_alloc_new W2 (.cells #[.func (.func 125) #[] #[.pointer (some ⟨b1, 0, none⟩)], .func (.func 126) #[] #[.pointer (some ⟨b2, 0, none⟩)]] 182)) rfl (by simp))
  have HOK := Aside0.mk (show ∀ k, k < [Op3.tag b1 tag, Op3.hold b2 hat].length → (rdOp [Op3.tag b1 tag, Op3.hold b2 hat] k).ok (W2.alloc (.cells #[.func (.func 125) #[] #[.pointer (some ⟨b1, 0, none⟩)], .func (.func 126) #[] #[.pointer (some ⟨b2, 0, none⟩)]] 182)) from fun k hk => by
    rcases (show k = 0 ∨ k = 1 by simp at hk; omega) with rfl | rfl
    · exact Op3.ok_below HO1.out (below_alloc (Below.refl _ _) _)
    · exact Op3.ok_below HO2.out (below_alloc (Below.refl _ _) _))
  have B1 := Aside0.mk (blk_alloc B1.out (.cells #[.func (.func 125) #[] #[.pointer (some ⟨b1, 0, none⟩)], .func (.func 126) #[] #[.pointer (some ⟨b2, 0, none⟩)]] 182))
  have B3 := Aside0.mk (blk_alloc B3.out (.cells #[.func (.func 125) #[] #[.pointer (some ⟨b1, 0, none⟩)], .func (.func 126) #[] #[.pointer (some ⟨b2, 0, none⟩)]] 182))
  have HG := Aside0.mk (HG.out.below (below_alloc (Below.refl _ _) (.cells #[.func (.func 125) #[] #[.pointer (some ⟨b1, 0, none⟩)], .func (.func 126) #[] #[.pointer (some ⟨b2, 0, none⟩)]] 182)))
  have HB := Aside0.mk (HB.out.alloc HBS.out (.cells #[.func (.func 125) #[] #[.pointer (some ⟨b1, 0, none⟩)], .func (.func 126) #[] #[.pointer (some ⟨b2, 0, none⟩)]] 182))
  refine hK.out _ _ (KS.out _ B1.out B3.out) (fun hHeld => ?_)
  clear hK K
  refine norm_ (a' := ?_) ?_ ?_
  rotate_left
  · show Act.put _ (some 39) _ = _
    simp only [Act.put, List.setIfInBounds_toArray, List.set_cons_zero, List.set_cons_succ, i64_w, i32_w]
    rfl
  -- 10: t40 := call (Callee.value F90) [t30, t32, t33, t39] : 0 
  refine last_ (i := 10) (N := some 40) #[true, true, true, true, true, true, true, true, true, true, true] rfl rfl (one_of HT_.out (by kernel_rfl)) (by decide) (fun K hK => ?_)
  refine goes_ Try.func90 (by kernel_rfl) rfl #[.agg #[.string fam], .iface 110 (.pointer (some ⟨g, 0, none⟩)), .int .i64 at_, .slice (some ⟨W2.heap.size, 0, none⟩) 2 2] (by rfl) rfl rfl (by (try simp only [List.map_toArray, List.map_cons, List.map_nil]); first | done | rfl) ?_
  refine (ptSet_any fam at_ _ 2 [Op3.tag b1 tag, Op3.hold b2 hat] g base xs w0 _ HC.out HOK.out (by simp) HG.out HB.out HL.out).mono ?_
  rintro e_ w9 ⟨rfl, h1, h2⟩
  refine ⟨_, rfl, ?_⟩
  refine hK.out _ _ ?_
  clear hK K
  refine done_ (done_of HT_.out (by kernel_rfl)) ?_
  go_wp2
  go_end0
  have HS : setTM fam at_ [Op3.tag b1 tag, Op3.hold b2 hat] = stepTM fam tag true at_ 1 hat := by simp [setTM, stepTM, appAll, Op3.app]
  exact ⟨rfl, by rw [← HS]; exact h1, h2⟩
def timerSet_t1e.T6 : Bool × List (List Nat × List Nat) := (true, [([], []), ([], []), ([1], [1]), ([], []), ([], []), ([4], [4]), ([5], [5]), ([], []), ([7, 6], [7]), ([6, 8], [6, 8]), ([0, 2, 3, 9, 8], [0, 2, 3, 9])])
def timerSet_t1e.B6 : List Nat := [0, 0, 2, 0, 0, 16, 48, 0, 240, 496, 1023]
theorem timerSet_t1e.tab6 : rtab .any (opsOf Try.f54 6) = timerSet_t1e.T6 := by kernel_rfl
theorem timerSet_t1e.bits6 : waitsOk timerSet_t1e.T6.2 timerSet_t1e.B6 = true := by kernel_rfl
set_option maxRecDepth 100000 in
set_option maxHeartbeats 4000000 in
theorem timerSet_t1e (fam tag : ByteArray) (op at_ hat : Int) (g base : Nat) (xs : List TM) (w0 w : World) (hG : GV w g base xs) (hB : Below base w0 w) (hl : xs.length ≤ 1000000000) :
    Calls Try.prog 54 #[.pointer (some ⟨g, 0, none⟩), .agg #[.bool false, .string fam, .int .i64 op, .int .i64 at_, .string tag, .bool true, .int .i64 1, .int .i64 hat], .int .i64 at_, .agg #[.string fam], .agg #[.string fam]] w fun e w' => e = .returned (.tuple #[]) ∧ GV w' g base (xs ++ [stepTM fam tag true at_ 1 hat]) ∧ Below base w0 w' := by
  have HBS := Aside0.mk (show base ≤ w.heap.size by obtain ⟨v, h1, _, h3⟩ := hG; have := blk_lt h1; omega)
  have HW := Aside0.mk (below_alloc (below_alloc (below_alloc (Below.refl w.heap.size w) (.cells #[.bool false, .string fam, .int .i64 op, .int .i64 at_, .string tag, .bool true, .int .i64 1, .int .i64 hat] 44)) (.cells #[.string fam] 115)) (.cells #[.string fam] 117))
  have B1 := Aside0.mk (blk_alloc (blk_alloc (heap_alloc_new w (.cells #[.bool false, .string fam, .int .i64 op, .int .i64 at_, .string tag, .bool true, .int .i64 1, .int .i64 hat] 44)) (.cells #[.string fam] 115)) (.cells #[.string fam] 117))
  have B2 := Aside0.mk (blk_alloc (heap_alloc_new (w.alloc (.cells #[.bool false, .string fam, .int .i64 op, .int .i64 at_, .string tag, .bool true, .int .i64 1, .int .i64 hat] 44)) (.cells #[.string fam] 115)) (.cells #[.string fam] 117))
  have B3 := Aside0.mk (heap_alloc_new ((w.alloc (.cells #[.bool false, .string fam, .int .i64 op, .int .i64 at_, .string tag, .bool true, .int .i64 1, .int .i64 hat] 44)).alloc (.cells #[.string fam] 115)) (.cells #[.string fam] 117))
  simp only [World.size_alloc] at B2 B3
  have HG := Aside0.mk (hG.below HW.out)
  have HB := Aside0.mk (below_then hB HBS.out HW.out)
  have HL := Aside0.mk hl
  clear hG hB hl
  have KS := Aside0.mk (fun (z : World) (h1 : z.heap[w.heap.size]? = some (.cells #[.bool false, .string fam, .int .i64 op, .int .i64 at_, .string tag, .bool true, .int .i64 1, .int .i64 hat] 44 (0, 0))) (h2 : z.heap[w.heap.size + 1]? = some (.cells #[.string fam] 115 (0, 0))) => (⟨(blk_cell h2 0).trans rfl, (blk_cell h1 4).trans rfl⟩ : z.cell? ⟨w.heap.size + 1, 0, none⟩ = some (.string fam) ∧ z.cell? ⟨w.heap.size, 4, none⟩ = some (.string tag)))
  have B1 := Aside0.mk (blk_drew B1.out)
  have B3 := Aside0.mk (blk_drew B2.out)
  have K0 := KS.out _ B1.out B3.out
  have HG := Aside0.mk (HG.out.below (below_drew (Below.refl _ _)))
  have HB := Aside0.mk (below_drew HB.out)
  have HBS := Aside0.mk (Nat.le_trans HBS.out (below_drew HW.out).size)
  clear HW B2
  go_enter Try.func54, Try.ntmps54
  go_wp2_with fail
  refine start_ (n := 11) (S := fun w' => w'.cell? ⟨w.heap.size + 1, 0, none⟩ = some (.string fam) ∧ w'.cell? ⟨w.heap.size, 4, none⟩ = some (.string tag)) (ds := [10]) #[false, false, false, false, false, false, false, false, false, false, false] (by kernel_rfl) rfl rfl K0 (fun hHeld => ?_)
  refine with_tabW timerSet_t1e.tab6 timerSet_t1e.bits6 (fun HT_ HW_ => ?_)
  generalize (((w.alloc (.cells #[.bool false, .string fam, .int .i64 op, .int .i64 at_, .string tag, .bool true, .int .i64 1, .int .i64 hat] 44)).alloc (.cells #[.string fam] 115)).alloc (.cells #[.string fam] 117)).drew = W at *
  -- 1: t50 := move t0 : 110 
  refine pure_ (i := 1) (N := some 50) (v := ?_) (a' := ?_) #[false, true, false, false, false, false, false, false, false, false, false] rfl rfl (any_of HT_.out (by kernel_rfl)) (fun _ _ _ h => h) (Or.inl ⟨by rfl, ?_⟩) ?_ ?_
  rotate_left
  · intro w'
    go_simp
    with_reducible rfl
  rotate_left
  · simp only [Act.put, List.setIfInBounds_toArray, List.set_cons_zero, List.set_cons_succ, i64_w, i32_w]
    rfl
  -- 2: t51 := makeInterface 110 t50 : 176 
  refine pure_ (i := 2) (N := some 51) (v := ?_) (a' := ?_) #[false, true, true, false, false, false, false, false, false, false, false] rfl rfl (any_of HT_.out (by kernel_rfl)) (fun _ _ _ h => h) (Or.inl ⟨by rfl, ?_⟩) ?_ ?_
  rotate_left
  · intro w'
    go_simp
    with_reducible rfl
  rotate_left
  · simp only [Act.put, List.setIfInBounds_toArray, List.set_cons_zero, List.set_cons_succ, i64_w, i32_w]
    rfl
  -- 3: t52 := move t2 : 113 
  refine pure_ (i := 3) (N := some 52) (v := ?_) (a' := ?_) #[false, true, true, true, false, false, false, false, false, false, false] rfl rfl (any_of HT_.out (by kernel_rfl)) (fun _ _ _ h => h) (Or.inl ⟨by rfl, ?_⟩) ?_ ?_
  rotate_left
  · intro w'
    go_simp
    with_reducible rfl
  rotate_left
  · simp only [Act.put, List.setIfInBounds_toArray, List.set_cons_zero, List.set_cons_succ, i64_w, i32_w]
    rfl
  -- 4: t53 := fieldAddr 44 t6 4 : 0 
  refine pure_ (i := 4) (N := some 53) (v := ?_) (a' := ?_) #[false, true, true, true, true, false, false, false, false, false, false] rfl rfl (any_of HT_.out (by kernel_rfl)) (fun _ _ _ h => h) (Or.inl ⟨by rfl, ?_⟩) ?_ ?_
  rotate_left
  · intro w'
    go_simp
    with_reducible rfl
  rotate_left
  · simp only [Act.put, List.setIfInBounds_toArray, List.set_cons_zero, List.set_cons_succ, i64_w, i32_w]
    rfl
  -- 7: t56 := move t10 : 113 
  refine pure_ (i := 7) (N := some 56) (v := ?_) (a' := ?_) #[false, true, true, true, true, false, false, true, false, false, false] rfl rfl (any_of HT_.out (by kernel_rfl)) (fun _ _ _ h => h) (Or.inl ⟨by rfl, ?_⟩) ?_ ?_
  rotate_left
  · intro w'
    go_simp
    with_reducible rfl
  rotate_left
  · simp only [Act.put, List.setIfInBounds_toArray, List.set_cons_zero, List.set_cons_succ, i64_w, i32_w]
    rfl
  -- 0: t49 := load 115 t8 : 115 
  refine take_ (i := 0) (N := some 49) (v := ?_) (a' := ?_) #[true, true, true, true, true, false, false, true, false, false, false] rfl rfl (take_ofW HT_.out HW_.out (by kernel_rfl)) (fun _ _ _ h => h) (Or.inl ⟨by rfl, ?_⟩) hHeld ?_ ?_
  rotate_left
  · rintro w' ⟨s0, s1⟩
    go_simp
    with_reducible rfl
  rotate_left
  · simp only [Act.put, List.setIfInBounds_toArray, List.set_cons_zero, List.set_cons_succ, i64_w, i32_w]
    rfl
  -- 5: t54 := load 9 t53 : 9 
  refine take_ (i := 5) (N := some 54) (v := ?_) (a' := ?_) #[true, true, true, true, true, true, false, true, false, false, false] rfl rfl (take_ofW HT_.out HW_.out (by kernel_rfl)) (fun _ _ _ h => h) (Or.inl ⟨by rfl, ?_⟩) hHeld ?_ ?_
  rotate_left
  · rintro w' ⟨s0, s1⟩
    go_simp
    with_reducible rfl
  rotate_left
  · simp only [Act.put, List.setIfInBounds_toArray, List.set_cons_zero, List.set_cons_succ, i64_w, i32_w]
    rfl
  -- 6: t55 := call (Callee.value F91) [t54] : 182 
  refine one_ (i := 6) (N := some 55) #[true, true, true, true, true, true, true, true, false, false, false] rfl rfl (one_of HT_.out (by kernel_rfl)) (by decide) (fun K hK => ?_)
  refine goes_ Try.func91 (by kernel_rfl) rfl #[.string tag] (by rfl) rfl rfl (by (try simp only [List.map_toArray, List.map_cons, List.map_nil]); first | done | rfl) ?_
  refine (withTag_any tag _).mono ?_
  rintro e_ W1 ⟨b1, rfl, ho1, hb1⟩
  refine ⟨_, rfl, ?_⟩
  have B1 := Aside0.mk (blk_below B1.out hb1)
  have B3 := Aside0.mk (blk_below B3.out hb1)
  have HG := Aside0.mk (HG.out.below hb1)
  have HB := Aside0.mk (below_then HB.out HBS.out hb1)
  have HBS := Aside0.mk (Nat.le_trans HBS.out hb1.size)
  have HO1 := Aside0.mk ho1
  clear hb1 ho1
  refine hK.out _ _ (KS.out _ B1.out B3.out) (fun hHeld => ?_)
  clear hK K
  refine norm_ (a' := ?_) ?_ ?_
  rotate_left
  · show Act.put _ (some 55) _ = _
    simp only [Act.put, List.setIfInBounds_toArray, List.set_cons_zero, List.set_cons_succ, i64_w, i32_w]
    rfl
  -- 8: t57 := call (Callee.value F92) [t56] : 182 
  refine one_ (i := 8) (N := some 57) #[true, true, true, true, true, true, true, true, true, false, false] rfl rfl (one_of HT_.out (by kernel_rfl)) (by decide) (fun K hK => ?_)
  refine goes_ Try.func92 (by kernel_rfl) rfl #[.int .i64 hat] (by rfl) rfl rfl (by (try simp only [List.map_toArray, List.map_cons, List.map_nil]); first | done | rfl) ?_
  refine (withHold_any hat _).mono ?_
  rintro e_ W2 ⟨b2, rfl, ho2, hb2⟩
  refine ⟨_, rfl, ?_⟩
  have B1 := Aside0.mk (blk_below B1.out hb2)
  have B3 := Aside0.mk (blk_below B3.out hb2)
  have HG := Aside0.mk (HG.out.below hb2)
  have HB := Aside0.mk (below_then HB.out HBS.out hb2)
  have HBS := Aside0.mk (Nat.le_trans HBS.out hb2.size)
  have HO1 := Aside0.mk (Op3.ok_below HO1.out hb2)
  have HO2 := Aside0.mk ho2
  clear hb2 ho2
  refine hK.out _ _ (KS.out _ B1.out B3.out) (fun hHeld => ?_)
  clear hK K
  refine norm_ (a' := ?_) ?_ ?_
  rotate_left
  · show Act.put _ (some 57) _ = _
    simp only [Act.put, List.setIfInBounds_toArray, List.set_cons_zero, List.set_cons_succ, i64_w, i32_w]
    rfl
  -- 9: t58 := buildSlice 237 2 [(0, t55), (1, t57)] : 237 
  refine one_ (i := 9) (N := some 58) #[true, true, true, true, true, true, true, true, true, true, false] rfl rfl (one_of HT_.out (by kernel_rfl)) (by decide) (fun K hK => ?_)
  refine event_step (v := .slice (some ⟨W2.heap.size, 0, none⟩) 2 2) (w1 := W2.alloc (.cells #[.func (.func 125) #[] #[.pointer (some ⟨b1, 0, none⟩)], .func (.func 126) #[] #[.pointer (some ⟨b2, 0, none⟩)]] 182)) (by rfl) (by first | (go_simp; done) | (go_simp; rfl)) ?_
  have HC := Aside0.mk (C_lit (enc := Op3.val) (h1 := Op3.val_one) (xs := [Op3.tag b1 tag, Op3.hold b2 hat]) (heap_alloc_new W2 (.cells #[.func (.func 125) #[] #[.pointer (some ⟨b1, 0, none⟩)], .func (.func 126) #[] #[.pointer (some ⟨b2, 0, none⟩)]] 182)) rfl (by simp))
  have HOK := Aside0.mk (show ∀ k, k < [Op3.tag b1 tag, Op3.hold b2 hat].length → (rdOp [Op3.tag b1 tag, Op3.hold b2 hat] k).ok (W2.alloc (.cells #[.func (.func 125) #[] #[.pointer (some ⟨b1, 0, none⟩)], .func (.func 126) #[] #[.pointer (some ⟨b2, 0, none⟩)]] 182)) from fun k hk => by
    rcases (show k = 0 ∨ k = 1 by simp at hk; omega) with rfl | rfl
    · exact Op3.ok_below HO1.out (below_alloc (Below.refl _ _) _)
    · exact Op3.ok_below HO2.out (below_alloc (Below.refl _ _) _))
  have B1 := Aside0.mk (blk_alloc B1.out (.cells #[.func (.func 125) #[] #[.pointer (some ⟨b1, 0, none⟩)], .func (.func 126) #[] #[.pointer (some ⟨b2, 0, none⟩)]] 182))
  have B3 := Aside0.mk (blk_alloc B3.out (.cells #[.func (.func 125) #[] #[.pointer (some ⟨b1, 0, none⟩)], .func (.func 126) #[] #[.pointer (some ⟨b2, 0, none⟩)]] 182))
  have HG := Aside0.mk (HG.out.below (below_alloc (Below.refl _ _) (.cells #[.func (.func 125) #[] #[.pointer (some ⟨b1, 0, none⟩)], .func (.func 126) #[] #[.pointer (some ⟨b2, 0, none⟩)]] 182)))
  have HB := Aside0.mk (HB.out.alloc HBS.out (.cells #[.func (.func 125) #[] #[.pointer (some ⟨b1, 0, none⟩)], .func (.func 126) #[] #[.pointer (some ⟨b2, 0, none⟩)]] 182))
  refine hK.out _ _ (KS.out _ B1.out B3.out) (fun hHeld => ?_)
  clear hK K
  refine norm_ (a' := ?_) ?_ ?_
  rotate_left
  · show Act.put _ (some 58) _ = _
    simp only [Act.put, List.setIfInBounds_toArray, List.set_cons_zero, List.set_cons_succ, i64_w, i32_w]
    rfl
  -- 10: t59 := call (Callee.value F93) [t49, t51, t52, t58] : 0 
  refine last_ (i := 10) (N := some 59) #[true, true, true, true, true, true, true, true, true, true, true] rfl rfl (one_of HT_.out (by kernel_rfl)) (by decide) (fun K hK => ?_)
  refine goes_ Try.func93 (by kernel_rfl) rfl #[.agg #[.string fam], .iface 110 (.pointer (some ⟨g, 0, none⟩)), .int .i64 at_, .slice (some ⟨W2.heap.size, 0, none⟩) 2 2] (by rfl) rfl rfl (by (try simp only [List.map_toArray, List.map_cons, List.map_nil]); first | done | rfl) ?_
  refine (etSet_any fam at_ _ 2 [Op3.tag b1 tag, Op3.hold b2 hat] g base xs w0 _ HC.out HOK.out (by simp) HG.out HB.out HL.out).mono ?_
  rintro e_ w9 ⟨rfl, h1, h2⟩
  refine ⟨_, rfl, ?_⟩
  refine hK.out _ _ ?_
  clear hK K
  refine done_ (done_of HT_.out (by kernel_rfl)) ?_
  go_wp2
  go_end0
  have HS : setTM fam at_ [Op3.tag b1 tag, Op3.hold b2 hat] = stepTM fam tag true at_ 1 hat := by simp [setTM, stepTM, appAll, Op3.app]
  exact ⟨rfl, by rw [← HS]; exact h1, h2⟩
def timerSet_t2p.T8 : Bool × List (List Nat × List Nat) := (true, [([], []), ([], []), ([1], [1]), ([], []), ([], []), ([4], [4]), ([5], [5]), ([6], []), ([6, 7], [6, 7]), ([0, 2, 3, 8, 7], [0, 2, 3, 8])])
def timerSet_t2p.B8 : List Nat := [0, 0, 2, 0, 0, 16, 48, 112, 240, 511]
theorem timerSet_t2p.tab8 : rtab .any (opsOf Try.f54 8) = timerSet_t2p.T8 := by kernel_rfl
theorem timerSet_t2p.bits8 : waitsOk timerSet_t2p.T8.2 timerSet_t2p.B8 = true := by kernel_rfl
set_option maxRecDepth 100000 in
set_option maxHeartbeats 4000000 in
theorem timerSet_t2p (fam tag : ByteArray) (op at_ hat : Int) (g base : Nat) (xs : List TM) (w0 w : World) (hG : GV w g base xs) (hB : Below base w0 w) (hl : xs.length ≤ 1000000000) :
    Calls Try.prog 54 #[.pointer (some ⟨g, 0, none⟩), .agg #[.bool true, .string fam, .int .i64 op, .int .i64 at_, .string tag, .bool true, .int .i64 2, .int .i64 hat], .int .i64 at_, .agg #[.string fam], .agg #[.string fam]] w fun e w' => e = .returned (.tuple #[]) ∧ GV w' g base (xs ++ [stepTM fam tag true at_ 2 hat]) ∧ Below base w0 w' := by
  have HBS := Aside0.mk (show base ≤ w.heap.size by obtain ⟨v, h1, _, h3⟩ := hG; have := blk_lt h1; omega)
  have HW := Aside0.mk (below_alloc (below_alloc (below_alloc (Below.refl w.heap.size w) (.cells #[.bool true, .string fam, .int .i64 op, .int .i64 at_, .string tag, .bool true, .int .i64 2, .int .i64 hat] 44)) (.cells #[.string fam] 115)) (.cells #[.string fam] 117))
  have B1 := Aside0.mk (blk_alloc (blk_alloc (heap_alloc_new w (.cells #[.bool true, .string fam, .int .i64 op, .int .i64 at_, .string tag, .bool true, .int .i64 2, .int .i64 hat] 44)) (.cells #[.string fam] 115)) (.cells #[.string fam] 117))
  have B2 := Aside0.mk (blk_alloc (heap_alloc_new (w.alloc (.cells #[.bool true, .string fam, .int .i64 op, .int .i64 at_, .string tag, .bool true, .int .i64 2, .int .i64 hat] 44)) (.cells #[.string fam] 115)) (.cells #[.string fam] 117))
  have B3 := Aside0.mk (heap_alloc_new ((w.alloc (.cells #[.bool true, .string fam, .int .i64 op, .int .i64 at_, .string tag, .bool true, .int .i64 2, .int .i64 hat] 44)).alloc (.cells #[.string fam] 115)) (.cells #[.string fam] 117))
  simp only [World.size_alloc] at B2 B3
  have HG := Aside0.mk (hG.below HW.out)
  have HB := Aside0.mk (below_then hB HBS.out HW.out)
  have HL := Aside0.mk hl
  clear hG hB hl
  have KS := Aside0.mk (fun (z : World) (h1 : z.heap[w.heap.size]? = some (.cells #[.bool true, .string fam, .int .i64 op, .int .i64 at_, .string tag, .bool true, .int .i64 2, .int .i64 hat] 44 (0, 0))) (h2 : z.heap[w.heap.size + 1 + 1]? = some (.cells #[.string fam] 117 (0, 0))) => (⟨(blk_cell h2 0).trans rfl, (blk_cell h1 4).trans rfl⟩ : z.cell? ⟨w.heap.size + 1 + 1, 0, none⟩ = some (.string fam) ∧ z.cell? ⟨w.heap.size, 4, none⟩ = some (.string tag)))
  have B1 := Aside0.mk (blk_drew B1.out)
  have B3 := Aside0.mk (blk_drew B3.out)
  have K0 := KS.out _ B1.out B3.out
  have HG := Aside0.mk (HG.out.below (below_drew (Below.refl _ _)))
  have HB := Aside0.mk (below_drew HB.out)
  have HBS := Aside0.mk (Nat.le_trans HBS.out (below_drew HW.out).size)
  clear HW B2
  go_enter Try.func54, Try.ntmps54
  go_wp2_with fail
  refine start_ (n := 10) (S := fun w' => w'.cell? ⟨w.heap.size + 1 + 1, 0, none⟩ = some (.string fam) ∧ w'.cell? ⟨w.heap.size, 4, none⟩ = some (.string tag)) (ds := [9]) #[false, false, false, false, false, false, false, false, false, false] (by kernel_rfl) rfl rfl K0 (fun hHeld => ?_)
  refine with_tabW timerSet_t2p.tab8 timerSet_t2p.bits8 (fun HT_ HW_ => ?_)
  generalize (((w.alloc (.cells #[.bool true, .string fam, .int .i64 op, .int .i64 at_, .string tag, .bool true, .int .i64 2, .int .i64 hat] 44)).alloc (.cells #[.string fam] 115)).alloc (.cells #[.string fam] 117)).drew = W at *
  -- 1: t73 := move t0 : 110 
  refine pure_ (i := 1) (N := some 73) (v := ?_) (a' := ?_) #[false, true, false, false, false, false, false, false, false, false] rfl rfl (any_of HT_.out (by kernel_rfl)) (fun _ _ _ h => h) (Or.inl ⟨by rfl, ?_⟩) ?_ ?_
  rotate_left
  · intro w'
    go_simp
    with_reducible rfl
  rotate_left
  · simp only [Act.put, List.setIfInBounds_toArray, List.set_cons_zero, List.set_cons_succ, i64_w, i32_w]
    rfl
  -- 2: t74 := makeInterface 110 t73 : 176 
  refine pure_ (i := 2) (N := some 74) (v := ?_) (a' := ?_) #[false, true, true, false, false, false, false, false, false, false] rfl rfl (any_of HT_.out (by kernel_rfl)) (fun _ _ _ h => h) (Or.inl ⟨by rfl, ?_⟩) ?_ ?_
  rotate_left
  · intro w'
    go_simp
    with_reducible rfl
  rotate_left
  · simp only [Act.put, List.setIfInBounds_toArray, List.set_cons_zero, List.set_cons_succ, i64_w, i32_w]
    rfl
  -- 3: t75 := move t2 : 113 
  refine pure_ (i := 3) (N := some 75) (v := ?_) (a' := ?_) #[false, true, true, true, false, false, false, false, false, false] rfl rfl (any_of HT_.out (by kernel_rfl)) (fun _ _ _ h => h) (Or.inl ⟨by rfl, ?_⟩) ?_ ?_
  rotate_left
  · intro w'
    go_simp
    with_reducible rfl
  rotate_left
  · simp only [Act.put, List.setIfInBounds_toArray, List.set_cons_zero, List.set_cons_succ, i64_w, i32_w]
    rfl
  -- 4: t76 := fieldAddr 44 t6 4 : 0 
  refine pure_ (i := 4) (N := some 76) (v := ?_) (a' := ?_) #[false, true, true, true, true, false, false, false, false, false] rfl rfl (any_of HT_.out (by kernel_rfl)) (fun _ _ _ h => h) (Or.inl ⟨by rfl, ?_⟩) ?_ ?_
  rotate_left
  · intro w'
    go_simp
    with_reducible rfl
  rotate_left
  · simp only [Act.put, List.setIfInBounds_toArray, List.set_cons_zero, List.set_cons_succ, i64_w, i32_w]
    rfl
  -- 0: t72 := load 117 t9 : 117 
  refine take_ (i := 0) (N := some 72) (v := ?_) (a' := ?_) #[true, true, true, true, true, false, false, false, false, false] rfl rfl (take_ofW HT_.out HW_.out (by kernel_rfl)) (fun _ _ _ h => h) (Or.inl ⟨by rfl, ?_⟩) hHeld ?_ ?_
  rotate_left
  · rintro w' ⟨s0, s1⟩
    go_simp
    with_reducible rfl
  rotate_left
  · simp only [Act.put, List.setIfInBounds_toArray, List.set_cons_zero, List.set_cons_succ, i64_w, i32_w]
    rfl
  -- 5: t77 := load 9 t76 : 9 
  refine take_ (i := 5) (N := some 77) (v := ?_) (a' := ?_) #[true, true, true, true, true, true, false, false, false, false] rfl rfl (take_ofW HT_.out HW_.out (by kernel_rfl)) (fun _ _ _ h => h) (Or.inl ⟨by rfl, ?_⟩) hHeld ?_ ?_
  rotate_left
  · rintro w' ⟨s0, s1⟩
    go_simp
    with_reducible rfl
  rotate_left
  · simp only [Act.put, List.setIfInBounds_toArray, List.set_cons_zero, List.set_cons_succ, i64_w, i32_w]
    rfl
  -- 6: t78 := call (Callee.value F91) [t77] : 182 
  refine one_ (i := 6) (N := some 78) #[true, true, true, true, true, true, true, false, false, false] rfl rfl (one_of HT_.out (by kernel_rfl)) (by decide) (fun K hK => ?_)
  refine goes_ Try.func91 (by kernel_rfl) rfl #[.string tag] (by rfl) rfl rfl (by (try simp only [List.map_toArray, List.map_cons, List.map_nil]); first | done | rfl) ?_
  refine (withTag_any tag _).mono ?_
  rintro e_ W1 ⟨b1, rfl, ho1, hb1⟩
  refine ⟨_, rfl, ?_⟩
  have B1 := Aside0.mk (blk_below B1.out hb1)
  have B3 := Aside0.mk (blk_below B3.out hb1)
  have HG := Aside0.mk (HG.out.below hb1)
  have HB := Aside0.mk (below_then HB.out HBS.out hb1)
  have HBS := Aside0.mk (Nat.le_trans HBS.out hb1.size)
  have HO1 := Aside0.mk ho1
  clear hb1 ho1
  refine hK.out _ _ (KS.out _ B1.out B3.out) (fun hHeld => ?_)
  clear hK K
  refine norm_ (a' := ?_) ?_ ?_
  rotate_left
  · show Act.put _ (some 78) _ = _
    simp only [Act.put, List.setIfInBounds_toArray, List.set_cons_zero, List.set_cons_succ, i64_w, i32_w]
    rfl
  -- 7: t79 := call (Callee.value F94) [] : 182 
  refine one_ (i := 7) (N := some 79) #[true, true, true, true, true, true, true, true, false, false] rfl rfl (one_of HT_.out (by kernel_rfl)) (by decide) (fun K hK => ?_)
  refine goes_ Try.func94 (by kernel_rfl) rfl #[] (by rfl) rfl rfl (by (try simp only [List.map_toArray, List.map_cons, List.map_nil]); first | done | rfl) ?_
  refine (withNo_any _).mono ?_
  rintro e_ w5 ⟨rfl, rfl⟩
  refine ⟨_, rfl, ?_⟩
  refine hK.out _ _ hHeld (fun hHeld => ?_)
  clear hK K
  refine norm_ (a' := ?_) ?_ ?_
  rotate_left
  · show Act.put _ (some 79) _ = _
    simp only [Act.put, List.setIfInBounds_toArray, List.set_cons_zero, List.set_cons_succ, i64_w, i32_w]
    rfl
  -- 8: t80 := buildSlice 237 2 [(0, t78), (1, t79)] : 237 
  refine one_ (i := 8) (N := some 80) #[true, true, true, true, true, true, true, true, true, false] rfl rfl (one_of HT_.out (by kernel_rfl)) (by decide) (fun K hK => ?_)
  refine event_step (v := .slice (some ⟨W1.heap.size, 0, none⟩) 2 2) (w1 := W1.alloc (.cells #[.func (.func 125) #[] #[.pointer (some ⟨b1, 0, none⟩)], .func (.func 127) #[] #[]] 182)) (by rfl) (by first | (go_simp; done) | (go_simp; rfl)) ?_
  have HC := Aside0.mk (C_lit (enc := Op3.val) (h1 := Op3.val_one) (xs := [Op3.tag b1 tag, Op3.no]) (heap_alloc_new W1 (.cells #[.func (.func 125) #[] #[.pointer (some ⟨b1, 0, none⟩)], .func (.func 127) #[] #[]] 182)) rfl (by simp))
  have HOK := Aside0.mk (show ∀ k, k < [Op3.tag b1 tag, Op3.no].length → (rdOp [Op3.tag b1 tag, Op3.no] k).ok (W1.alloc (.cells #[.func (.func 125) #[] #[.pointer (some ⟨b1, 0, none⟩)], .func (.func 127) #[] #[]] 182)) from fun k hk => by
    rcases (show k = 0 ∨ k = 1 by simp at hk; omega) with rfl | rfl
    · exact Op3.ok_below HO1.out (below_alloc (Below.refl _ _) _)
    · exact trivial)
  have B1 := Aside0.mk (blk_alloc B1.out (.cells #[.func (.func 125) #[] #[.pointer (some ⟨b1, 0, none⟩)], .func (.func 127) #[] #[]] 182))
  have B3 := Aside0.mk (blk_alloc B3.out (.cells #[.func (.func 125) #[] #[.pointer (some ⟨b1, 0, none⟩)], .func (.func 127) #[] #[]] 182))
  have HG := Aside0.mk (HG.out.below (below_alloc (Below.refl _ _) (.cells #[.func (.func 125) #[] #[.pointer (some ⟨b1, 0, none⟩)], .func (.func 127) #[] #[]] 182)))
  have HB := Aside0.mk (HB.out.alloc HBS.out (.cells #[.func (.func 125) #[] #[.pointer (some ⟨b1, 0, none⟩)], .func (.func 127) #[] #[]] 182))
  refine hK.out _ _ (KS.out _ B1.out B3.out) (fun hHeld => ?_)
  clear hK K
  refine norm_ (a' := ?_) ?_ ?_
  rotate_left
  · show Act.put _ (some 80) _ = _
    simp only [Act.put, List.setIfInBounds_toArray, List.set_cons_zero, List.set_cons_succ, i64_w, i32_w]
    rfl
  -- 9: t81 := call (Callee.value F90) [t72, t74, t75, t80] : 0 
  refine last_ (i := 9) (N := some 81) #[true, true, true, true, true, true, true, true, true, true] rfl rfl (one_of HT_.out (by kernel_rfl)) (by decide) (fun K hK => ?_)
  refine goes_ Try.func90 (by kernel_rfl) rfl #[.agg #[.string fam], .iface 110 (.pointer (some ⟨g, 0, none⟩)), .int .i64 at_, .slice (some ⟨W1.heap.size, 0, none⟩) 2 2] (by rfl) rfl rfl (by (try simp only [List.map_toArray, List.map_cons, List.map_nil]); first | done | rfl) ?_
  refine (ptSet_any fam at_ _ 2 [Op3.tag b1 tag, Op3.no] g base xs w0 _ HC.out HOK.out (by simp) HG.out HB.out HL.out).mono ?_
  rintro e_ w9 ⟨rfl, h1, h2⟩
  refine ⟨_, rfl, ?_⟩
  refine hK.out _ _ ?_
  clear hK K
  refine done_ (done_of HT_.out (by kernel_rfl)) ?_
  go_wp2
  go_end0
  have HS : setTM fam at_ [Op3.tag b1 tag, Op3.no] = stepTM fam tag true at_ 2 hat := by simp [setTM, stepTM, appAll, Op3.app]
  exact ⟨rfl, by rw [← HS]; exact h1, h2⟩
def timerSet_t2e.T10 : Bool × List (List Nat × List Nat) := (true, [([], []), ([], []), ([1], [1]), ([], []), ([], []), ([4], [4]), ([5], [5]), ([6], []), ([6, 7], [6, 7]), ([0, 2, 3, 8, 7], [0, 2, 3, 8])])
def timerSet_t2e.B10 : List Nat := [0, 0, 2, 0, 0, 16, 48, 112, 240, 511]
theorem timerSet_t2e.tab10 : rtab .any (opsOf Try.f54 10) = timerSet_t2e.T10 := by kernel_rfl
theorem timerSet_t2e.bits10 : waitsOk timerSet_t2e.T10.2 timerSet_t2e.B10 = true := by kernel_rfl
set_option maxRecDepth 100000 in
set_option maxHeartbeats 4000000 in
theorem timerSet_t2e (fam tag : ByteArray) (op at_ hat : Int) (g base : Nat) (xs : List TM) (w0 w : World) (hG : GV w g base xs) (hB : Below base w0 w) (hl : xs.length ≤ 1000000000) :
    Calls Try.prog 54 #[.pointer (some ⟨g, 0, none⟩), .agg #[.bool false, .string fam, .int .i64 op, .int .i64 at_, .string tag, .bool true, .int .i64 2, .int .i64 hat], .int .i64 at_, .agg #[.string fam], .agg #[.string fam]] w fun e w' => e = .returned (.tuple #[]) ∧ GV w' g base (xs ++ [stepTM fam tag true at_ 2 hat]) ∧ Below base w0 w' := by
  have HBS := Aside0.mk (show base ≤ w.heap.size by obtain ⟨v, h1, _, h3⟩ := hG; have := blk_lt h1; omega)
  have HW := Aside0.mk (below_alloc (below_alloc (below_alloc (Below.refl w.heap.size w) (.cells #[.bool false, .string fam, .int .i64 op, .int .i64 at_, .string tag, .bool true, .int .i64 2, .int .i64 hat] 44)) (.cells #[.string fam] 115)) (.cells #[.string fam] 117))
  have B1 := Aside0.mk (blk_alloc (blk_alloc (heap_alloc_new w (.cells #[.bool false, .string fam, .int .i64 op, .int .i64 at_, .string tag, .bool true, .int .i64 2, .int .i64 hat] 44)) (.cells #[.string fam] 115)) (.cells #[.string fam] 117))
  have B2 := Aside0.mk (blk_alloc (heap_alloc_new (w.alloc (.cells #[.bool false, .string fam, .int .i64 op, .int .i64 at_, .string tag, .bool true, .int .i64 2, .int .i64 hat] 44)) (.cells #[.string fam] 115)) (.cells #[.string fam] 117))
  have B3 := Aside0.mk (heap_alloc_new ((w.alloc (.cells #[.bool false, .string fam, .int .i64 op, .int .i64 at_, .string tag, .bool true, .int .i64 2, .int .i64 hat] 44)).alloc (.cells #[.string fam] 115)) (.cells #[.string fam] 117))
  simp only [World.size_alloc] at B2 B3
  have HG := Aside0.mk (hG.below HW.out)
  have HB := Aside0.mk (below_then hB HBS.out HW.out)
  have HL := Aside0.mk hl
  clear hG hB hl
  have KS := Aside0.mk (fun (z : World) (h1 : z.heap[w.heap.size]? = some (.cells #[.bool false, .string fam, .int .i64 op, .int .i64 at_, .string tag, .bool true, .int .i64 2, .int .i64 hat] 44 (0, 0))) (h2 : z.heap[w.heap.size + 1]? = some (.cells #[.string fam] 115 (0, 0))) => (⟨(blk_cell h2 0).trans rfl, (blk_cell h1 4).trans rfl⟩ : z.cell? ⟨w.heap.size + 1, 0, none⟩ = some (.string fam) ∧ z.cell? ⟨w.heap.size, 4, none⟩ = some (.string tag)))
  have B1 := Aside0.mk (blk_drew B1.out)
  have B3 := Aside0.mk (blk_drew B2.out)
  have K0 := KS.out _ B1.out B3.out
  have HG := Aside0.mk (HG.out.below (below_drew (Below.refl _ _)))
  have HB := Aside0.mk (below_drew HB.out)
  have HBS := Aside0.mk (Nat.le_trans HBS.out (below_drew HW.out).size)
  clear HW B2
  go_enter Try.func54, Try.ntmps54
  go_wp2_with fail
  refine start_ (n := 10) (S := fun w' => w'.cell? ⟨w.heap.size + 1, 0, none⟩ = some (.string fam) ∧ w'.cell? ⟨w.heap.size, 4, none⟩ = some (.string tag)) (ds := [9]) #[false, false, false, false, false, false, false, false, false, false] (by kernel_rfl) rfl rfl K0 (fun hHeld => ?_)
  refine with_tabW timerSet_t2e.tab10 timerSet_t2e.bits10 (fun HT_ HW_ => ?_)
  generalize (((w.alloc (.cells #[.bool false, .string fam, .int .i64 op, .int .i64 at_, .string tag, .bool true, .int .i64 2, .int .i64 hat] 44)).alloc (.cells #[.string fam] 115)).alloc (.cells #[.string fam] 117)).drew = W at *
  -- 1: t91 := move t0 : 110 
  refine pure_ (i := 1) (N := some 91) (v := ?_) (a' := ?_) #[false, true, false, false, false, false, false, false, false, false] rfl rfl (any_of HT_.out (by kernel_rfl)) (fun _ _ _ h => h) (Or.inl ⟨by rfl, ?_⟩) ?_ ?_
  rotate_left
  · intro w'
    go_simp
    with_reducible rfl
  rotate_left
  · simp only [Act.put, List.setIfInBounds_toArray, List.set_cons_zero, List.set_cons_succ, i64_w, i32_w]
    rfl
  -- 2: t92 := makeInterface 110 t91 : 176 
  refine pure_ (i := 2) (N := some 92) (v := ?_) (a' := ?_) #[false, true, true, false, false, false, false, false, false, false] rfl rfl (any_of HT_.out (by kernel_rfl)) (fun _ _ _ h => h) (Or.inl ⟨by rfl, ?_⟩) ?_ ?_
  rotate_left
  · intro w'
    go_simp
    with_reducible rfl
  rotate_left
  · simp only [Act.put, List.setIfInBounds_toArray, List.set_cons_zero, List.set_cons_succ, i64_w, i32_w]
    rfl
  -- 3: t93 := move t2 : 113 
  refine pure_ (i := 3) (N := some 93) (v := ?_) (a' := ?_) #[false, true, true, true, false, false, false, false, false, false] rfl rfl (any_of HT_.out (by kernel_rfl)) (fun _ _ _ h => h) (Or.inl ⟨by rfl, ?_⟩) ?_ ?_
  rotate_left
  · intro w'
    go_simp
    with_reducible rfl
  rotate_left
  · simp only [Act.put, List.setIfInBounds_toArray, List.set_cons_zero, List.set_cons_succ, i64_w, i32_w]
    rfl
  -- 4: t94 := fieldAddr 44 t6 4 : 0 
  refine pure_ (i := 4) (N := some 94) (v := ?_) (a' := ?_) #[false, true, true, true, true, false, false, false, false, false] rfl rfl (any_of HT_.out (by kernel_rfl)) (fun _ _ _ h => h) (Or.inl ⟨by rfl, ?_⟩) ?_ ?_
  rotate_left
  · intro w'
    go_simp
    with_reducible rfl
  rotate_left
  · simp only [Act.put, List.setIfInBounds_toArray, List.set_cons_zero, List.set_cons_succ, i64_w, i32_w]
    rfl
  -- 0: t90 := load 115 t8 : 115 
  refine take_ (i := 0) (N := some 90) (v := ?_) (a' := ?_) #[true, true, true, true, true, false, false, false, false, false] rfl rfl (take_ofW HT_.out HW_.out (by kernel_rfl)) (fun _ _ _ h => h) (Or.inl ⟨by rfl, ?_⟩) hHeld ?_ ?_
  rotate_left
  · rintro w' ⟨s0, s1⟩
    go_simp
    with_reducible rfl
  rotate_left
  · simp only [Act.put, List.setIfInBounds_toArray, List.set_cons_zero, List.set_cons_succ, i64_w, i32_w]
    rfl
  -- 5: t95 := load 9 t94 : 9 
  refine take_ (i := 5) (N := some 95) (v := ?_) (a' := ?_) #[true, true, true, true, true, true, false, false, false, false] rfl rfl (take_ofW HT_.out HW_.out (by kernel_rfl)) (fun _ _ _ h => h) (Or.inl ⟨by rfl, ?_⟩) hHeld ?_ ?_
  rotate_left
  · rintro w' ⟨s0, s1⟩
    go_simp
    with_reducible rfl
  rotate_left
  · simp only [Act.put, List.setIfInBounds_toArray, List.set_cons_zero, List.set_cons_succ, i64_w, i32_w]
    rfl
  -- 6: t96 := call (Callee.value F91) [t95] : 182 
  refine one_ (i := 6) (N := some 96) #[true, true, true, true, true, true, true, false, false, false] rfl rfl (one_of HT_.out (by kernel_rfl)) (by decide) (fun K hK => ?_)
  refine goes_ Try.func91 (by kernel_rfl) rfl #[.string tag] (by rfl) rfl rfl (by (try simp only [List.map_toArray, List.map_cons, List.map_nil]); first | done | rfl) ?_
  refine (withTag_any tag _).mono ?_
  rintro e_ W1 ⟨b1, rfl, ho1, hb1⟩
  refine ⟨_, rfl, ?_⟩
  have B1 := Aside0.mk (blk_below B1.out hb1)
  have B3 := Aside0.mk (blk_below B3.out hb1)
  have HG := Aside0.mk (HG.out.below hb1)
  have HB := Aside0.mk (below_then HB.out HBS.out hb1)
  have HBS := Aside0.mk (Nat.le_trans HBS.out hb1.size)
  have HO1 := Aside0.mk ho1
  clear hb1 ho1
  refine hK.out _ _ (KS.out _ B1.out B3.out) (fun hHeld => ?_)
  clear hK K
  refine norm_ (a' := ?_) ?_ ?_
  rotate_left
  · show Act.put _ (some 96) _ = _
    simp only [Act.put, List.setIfInBounds_toArray, List.set_cons_zero, List.set_cons_succ, i64_w, i32_w]
    rfl
  -- 7: t97 := call (Callee.value F94) [] : 182 
  refine one_ (i := 7) (N := some 97) #[true, true, true, true, true, true, true, true, false, false] rfl rfl (one_of HT_.out (by kernel_rfl)) (by decide) (fun K hK => ?_)
  refine goes_ Try.func94 (by kernel_rfl) rfl #[] (by rfl) rfl rfl (by (try simp only [List.map_toArray, List.map_cons, List.map_nil]); first | done | rfl) ?_
  refine (withNo_any _).mono ?_
  rintro e_ w5 ⟨rfl, rfl⟩
  refine ⟨_, rfl, ?_⟩
  refine hK.out _ _ hHeld (fun hHeld => ?_)
  clear hK K
  refine norm_ (a' := ?_) ?_ ?_
  rotate_left
  · show Act.put _ (some 97) _ = _
    simp only [Act.put, List.setIfInBounds_toArray, List.set_cons_zero, List.set_cons_succ, i64_w, i32_w]
    rfl
  -- 8: t98 := buildSlice 237 2 [(0, t96), (1, t97)] : 237 
  refine one_ (i := 8) (N := some 98) #[true, true, true, true, true, true, true, true, true, false] rfl rfl (one_of HT_.out (by kernel_rfl)) (by decide) (fun K hK => ?_)
  refine event_step (v := .slice (some ⟨W1.heap.size, 0, none⟩) 2 2) (w1 := W1.alloc (.cells #[.func (.func 125) #[] #[.pointer (some ⟨b1, 0, none⟩)], .func (.func 127) #[] #[]] 182)) (by rfl) (by first | (go_simp; done) | (go_simp; rfl)) ?_
  have HC := Aside0.mk (C_lit (enc := Op3.val) (h1 := Op3.val_one) (xs := [Op3.tag b1 tag, Op3.no]) (heap_alloc_new W1 (.cells #[.func (.func 125) #[] #[.pointer (some ⟨b1, 0, none⟩)], .func (.func 127) #[] #[]] 182)) rfl (by simp))
  have HOK := Aside0.mk (show ∀ k, k < [Op3.tag b1 tag, Op3.no].length → (rdOp [Op3.tag b1 tag, Op3.no] k).ok (W1.alloc (.cells #[.func (.func 125) #[] #[.pointer (some ⟨b1, 0, none⟩)], .func (.func 127) #[] #[]] 182)) from fun k hk => by
    rcases (show k = 0 ∨ k = 1 by simp at hk; omega) with rfl | rfl
    · exact Op3.ok_below HO1.out (below_alloc (Below.refl _ _) _)
    · exact trivial)
  have B1 := Aside0.mk (blk_alloc B1.out (.cells #[.func (.func 125) #[] #[.pointer (some ⟨b1, 0, none⟩)], .func (.func 127) #[] #[]] 182))
  have B3 := Aside0.mk (blk_alloc B3.out (.cells #[.func (.func 125) #[] #[.pointer (some ⟨b1, 0, none⟩)], .func (.func 127) #[] #[]] 182))
  have HG := Aside0.mk (HG.out.below (below_alloc (Below.refl _ _) (.cells #[.func (.func 125) #[] #[.pointer (some ⟨b1, 0, none⟩)], .func (.func 127) #[] #[]] 182)))
  have HB := Aside0.mk (HB.out.alloc HBS.out (.cells #[.func (.func 125) #[] #[.pointer (some ⟨b1, 0, none⟩)], .func (.func 127) #[] #[]] 182))
  refine hK.out _ _ (KS.out _ B1.out B3.out) (fun hHeld => ?_)
  clear hK K
  refine norm_ (a' := ?_) ?_ ?_
  rotate_left
  · show Act.put _ (some 98) _ = _
    simp only [Act.put, List.setIfInBounds_toArray, List.set_cons_zero, List.set_cons_succ, i64_w, i32_w]
    rfl
  -- 9: t99 := call (Callee.value F93) [t90, t92, t93, t98] : 0 
  refine last_ (i := 9) (N := some 99) #[true, true, true, true, true, true, true, true, true, true] rfl rfl (one_of HT_.out (by kernel_rfl)) (by decide) (fun K hK => ?_)
  refine goes_ Try.func93 (by kernel_rfl) rfl #[.agg #[.string fam], .iface 110 (.pointer (some ⟨g, 0, none⟩)), .int .i64 at_, .slice (some ⟨W1.heap.size, 0, none⟩) 2 2] (by rfl) rfl rfl (by (try simp only [List.map_toArray, List.map_cons, List.map_nil]); first | done | rfl) ?_
  refine (etSet_any fam at_ _ 2 [Op3.tag b1 tag, Op3.no] g base xs w0 _ HC.out HOK.out (by simp) HG.out HB.out HL.out).mono ?_
  rintro e_ w9 ⟨rfl, h1, h2⟩
  refine ⟨_, rfl, ?_⟩
  refine hK.out _ _ ?_
  clear hK K
  refine done_ (done_of HT_.out (by kernel_rfl)) ?_
  go_wp2
  go_end0
  have HS : setTM fam at_ [Op3.tag b1 tag, Op3.no] = stepTM fam tag true at_ 2 hat := by simp [setTM, stepTM, appAll, Op3.app]
  exact ⟨rfl, by rw [← HS]; exact h1, h2⟩
end Go.Proofs.Ytoigekmdicepnaa
