/- Contracts: the options of a timer; a timer that is set with its options. -/
import Derived.Test.YtoigekmdicepnaaTf
set_option linter.unusedVariables false
set_option linter.unusedSimpArgs false
namespace Go.Proofs.Ytoigekmdicepnaa
open Go.RowKit Go.Proofs.YtoigekmdicepnaaW.PrintWords Go.Proofs.YtoigekmdicepnaaW.PrintLast Go.Proofs.YtoigekmdicepnaaW.PrintMore

def timerSet_t0p.T12 : Bool × List (List Nat × List Nat) := (true, [([], []), ([], []), ([1], [1]), ([], []), ([], []), ([4], [4]), ([5], [5]), ([6], [6]), ([0, 2, 3, 7, 6], [0, 2, 3, 7])])
def timerSet_t0p.B12 : List Nat := [0, 0, 2, 0, 0, 16, 48, 112, 255]
theorem timerSet_t0p.tab12 : rtab .any (opsOf Try.f54 12) = timerSet_t0p.T12 := by kernel_rfl
theorem timerSet_t0p.bits12 : waitsOk timerSet_t0p.T12.2 timerSet_t0p.B12 = true := by kernel_rfl
set_option maxRecDepth 100000 in
set_option maxHeartbeats 4000000 in
theorem timerSet_t0p (fam tag : ByteArray) (op at_ hat : Int) (g base : Nat) (xs : List TM) (w0 w : World) (hG : GV w g base xs) (hB : Below base w0 w) (hl : xs.length ≤ 1000000000) :
    Calls Try.prog 54 #[.pointer (some ⟨g, 0, none⟩), .agg #[.bool true, .string fam, .int .i64 op, .int .i64 at_, .string tag, .bool true, .int .i64 0, .int .i64 hat], .int .i64 at_, .agg #[.string fam], .agg #[.string fam]] w fun e w' => e = .returned (.tuple #[]) ∧ GV w' g base (xs ++ [stepTM fam tag true at_ 0 hat]) ∧ Below base w0 w' := by
  have HBS := Aside0.mk (show base ≤ w.heap.size by obtain ⟨v, h1, _, h3⟩ := hG; have := blk_lt h1; omega)
  have HW := Aside0.mk (below_alloc (below_alloc (below_alloc (Below.refl w.heap.size w) (.cells #[.bool true, .string fam, .int .i64 op, .int .i64 at_, .string tag, .bool true, .int .i64 0, .int .i64 hat] 44)) (.cells #[.string fam] 115)) (.cells #[.string fam] 117))
  have B1 := Aside0.mk (blk_alloc (blk_alloc (heap_alloc_new w (.cells #[.bool true, .string fam, .int .i64 op, .int .i64 at_, .string tag, .bool true, .int .i64 0, .int .i64 hat] 44)) (.cells #[.string fam] 115)) (.cells #[.string fam] 117))
  have B2 := Aside0.mk (blk_alloc (heap_alloc_new (w.alloc (.cells #[.bool true, .string fam, .int .i64 op, .int .i64 at_, .string tag, .bool true, .int .i64 0, .int .i64 hat] 44)) (.cells #[.string fam] 115)) (.cells #[.string fam] 117))
  have B3 := Aside0.mk (heap_alloc_new ((w.alloc (.cells #[.bool true, .string fam, .int .i64 op, .int .i64 at_, .string tag, .bool true, .int .i64 0, .int .i64 hat] 44)).alloc (.cells #[.string fam] 115)) (.cells #[.string fam] 117))
  simp only [World.size_alloc] at B2 B3
  have HG := Aside0.mk (hG.below HW.out)
  have HB := Aside0.mk (below_then hB HBS.out HW.out)
  have HL := Aside0.mk hl
  clear hG hB hl
  have KS := Aside0.mk (fun (z : World) (h1 : z.heap[w.heap.size]? = some (.cells #[.bool true, .string fam, .int .i64 op, .int .i64 at_, .string tag, .bool true, .int .i64 0, .int .i64 hat] 44 (0, 0))) (h2 : z.heap[w.heap.size + 1 + 1]? = some (.cells #[.string fam] 117 (0, 0))) => (⟨(blk_cell h2 0).trans rfl, (blk_cell h1 4).trans rfl⟩ : z.cell? ⟨w.heap.size + 1 + 1, 0, none⟩ = some (.string fam) ∧ z.cell? ⟨w.heap.size, 4, none⟩ = some (.string tag)))
  have B1 := Aside0.mk (blk_drew B1.out)
  have B3 := Aside0.mk (blk_drew B3.out)
  have K0 := KS.out _ B1.out B3.out
  have HG := Aside0.mk (HG.out.below (below_drew (Below.refl _ _)))
  have HB := Aside0.mk (below_drew HB.out)
  have HBS := Aside0.mk (Nat.le_trans HBS.out (below_drew HW.out).size)
  clear HW B2
  go_enter Try.func54, Try.ntmps54
  go_wp2_with fail
  refine start_ (n := 9) (S := fun w' => w'.cell? ⟨w.heap.size + 1 + 1, 0, none⟩ = some (.string fam) ∧ w'.cell? ⟨w.heap.size, 4, none⟩ = some (.string tag)) (ds := [8]) #[false, false, false, false, false, false, false, false, false] (by kernel_rfl) rfl rfl K0 (fun hHeld => ?_)
  refine with_tabW timerSet_t0p.tab12 timerSet_t0p.bits12 (fun HT_ HW_ => ?_)
  generalize (((w.alloc (.cells #[.bool true, .string fam, .int .i64 op, .int .i64 at_, .string tag, .bool true, .int .i64 0, .int .i64 hat] 44)).alloc (.cells #[.string fam] 115)).alloc (.cells #[.string fam] 117)).drew = W at *
  -- 1: t108 := move t0 : 110 
  refine pure_ (i := 1) (N := some 108) (v := ?_) (a' := ?_) #[false, true, false, false, false, false, false, false, false] rfl rfl (any_of HT_.out (by kernel_rfl)) (fun _ _ _ h => h) (Or.inl ⟨by rfl, ?_⟩) ?_ ?_
  rotate_left
  · intro w'
    go_simp
    with_reducible rfl
  rotate_left
  · simp only [Act.put, List.setIfInBounds_toArray, List.set_cons_zero, List.set_cons_succ, i64_w, i32_w]
    rfl
  -- 2: t109 := makeInterface 110 t108 : 176 
  refine pure_ (i := 2) (N := some 109) (v := ?_) (a' := ?_) #[false, true, true, false, false, false, false, false, false] rfl rfl (any_of HT_.out (by kernel_rfl)) (fun _ _ _ h => h) (Or.inl ⟨by rfl, ?_⟩) ?_ ?_
  rotate_left
  · intro w'
    go_simp
    with_reducible rfl
  rotate_left
  · simp only [Act.put, List.setIfInBounds_toArray, List.set_cons_zero, List.set_cons_succ, i64_w, i32_w]
    rfl
  -- 3: t110 := move t2 : 113 
  refine pure_ (i := 3) (N := some 110) (v := ?_) (a' := ?_) #[false, true, true, true, false, false, false, false, false] rfl rfl (any_of HT_.out (by kernel_rfl)) (fun _ _ _ h => h) (Or.inl ⟨by rfl, ?_⟩) ?_ ?_
  rotate_left
  · intro w'
    go_simp
    with_reducible rfl
  rotate_left
  · simp only [Act.put, List.setIfInBounds_toArray, List.set_cons_zero, List.set_cons_succ, i64_w, i32_w]
    rfl
  -- 4: t111 := fieldAddr 44 t6 4 : 0 
  refine pure_ (i := 4) (N := some 111) (v := ?_) (a' := ?_) #[false, true, true, true, true, false, false, false, false] rfl rfl (any_of HT_.out (by kernel_rfl)) (fun _ _ _ h => h) (Or.inl ⟨by rfl, ?_⟩) ?_ ?_
  rotate_left
  · intro w'
    go_simp
    with_reducible rfl
  rotate_left
  · simp only [Act.put, List.setIfInBounds_toArray, List.set_cons_zero, List.set_cons_succ, i64_w, i32_w]
    rfl
  -- 0: t107 := load 117 t9 : 117 
  refine take_ (i := 0) (N := some 107) (v := ?_) (a' := ?_) #[true, true, true, true, true, false, false, false, false] rfl rfl (take_ofW HT_.out HW_.out (by kernel_rfl)) (fun _ _ _ h => h) (Or.inl ⟨by rfl, ?_⟩) hHeld ?_ ?_
  rotate_left
  · rintro w' ⟨s0, s1⟩
    go_simp
    with_reducible rfl
  rotate_left
  · simp only [Act.put, List.setIfInBounds_toArray, List.set_cons_zero, List.set_cons_succ, i64_w, i32_w]
    rfl
  -- 5: t112 := load 9 t111 : 9 
  refine take_ (i := 5) (N := some 112) (v := ?_) (a' := ?_) #[true, true, true, true, true, true, false, false, false] rfl rfl (take_ofW HT_.out HW_.out (by kernel_rfl)) (fun _ _ _ h => h) (Or.inl ⟨by rfl, ?_⟩) hHeld ?_ ?_
  rotate_left
  · rintro w' ⟨s0, s1⟩
    go_simp
    with_reducible rfl
  rotate_left
  · simp only [Act.put, List.setIfInBounds_toArray, List.set_cons_zero, List.set_cons_succ, i64_w, i32_w]
    rfl
  -- 6: t113 := call (Callee.value F91) [t112] : 182 
  refine one_ (i := 6) (N := some 113) #[true, true, true, true, true, true, true, false, false] rfl rfl (one_of HT_.out (by kernel_rfl)) (by decide) (fun K hK => ?_)
  refine goes_ Try.func91 (by kernel_rfl) rfl #[.string tag] (by rfl) rfl rfl (by (try simp only [List.map_toArray, List.map_cons, List.map_nil]); first | done | rfl) ?_
  refine (withTag_any tag _).mono ?_
  rintro e_ W1 ⟨b1, rfl, ho1, hb1⟩
  refine ⟨_, rfl, ?_⟩
  have B1 := Aside0.mk (blk_below B1.out hb1)
  have B3 := Aside0.mk (blk_below B3.out hb1)
  have HG := Aside0.mk (HG.out.below hb1)
  have HB := Aside0.mk (below_then HB.out HBS.out hb1)
  have HBS := Aside0.mk (Nat.le_trans HBS.out hb1.size)
  have HO1 := Aside0.mk ho1
  clear hb1 ho1
  refine hK.out _ _ (KS.out _ B1.out B3.out) (fun hHeld => ?_)
  clear hK K
  refine norm_ (a' := ?_) ?_ ?_
  rotate_left
  · show Act.put _ (some 113) _ = _
    simp only [Act.put, List.setIfInBounds_toArray, List.set_cons_zero, List.set_cons_succ, i64_w, i32_w]
    rfl
  -- 7: t114 := buildSlice 237 1 [(0, t113)] : 237 
  refine one_ (i := 7) (N := some 114) #[true, true, true, true, true, true, true, true, false] rfl rfl (one_of HT_.out (by kernel_rfl)) (by decide) (fun K hK => ?_)
  refine event_step (v := .slice (some ⟨W1.heap.size, 0, none⟩) 1 1) (w1 := W1.alloc (.cells #[.func (.func 125) #[] #[.pointer (some ⟨b1, 0, none⟩)]] 182)) (by rfl) (by first | (go_simp; done) | (go_simp; rfl)) ?_
  have HC := Aside0.mk (C_lit (enc := Op3.val) (h1 := Op3.val_one) (xs := [Op3.tag b1 tag]) (heap_alloc_new W1 (.cells #[.func (.func 125) #[] #[.pointer (some ⟨b1, 0, none⟩)]] 182)) rfl (by simp))
  have HOK := Aside0.mk (show ∀ k, k < [Op3.tag b1 tag].length → (rdOp [Op3.tag b1 tag] k).ok (W1.alloc (.cells #[.func (.func 125) #[] #[.pointer (some ⟨b1, 0, none⟩)]] 182)) from fun k hk => by
    obtain rfl : k = 0 := by simpa using hk
    exact Op3.ok_below HO1.out (below_alloc (Below.refl _ _) _))
  have B1 := Aside0.mk (blk_alloc B1.out (.cells #[.func (.func 125) #[] #[.pointer (some ⟨b1, 0, none⟩)]] 182))
  have B3 := Aside0.mk (blk_alloc B3.out (.cells #[.func (.func 125) #[] #[.pointer (some ⟨b1, 0, none⟩)]] 182))
  have HG := Aside0.mk (HG.out.below (below_alloc (Below.refl _ _) (.cells #[.func (.func 125) #[] #[.pointer (some ⟨b1, 0, none⟩)]] 182)))
  have HB := Aside0.mk (HB.out.alloc HBS.out (.cells #[.func (.func 125) #[] #[.pointer (some ⟨b1, 0, none⟩)]] 182))
  refine hK.out _ _ (KS.out _ B1.out B3.out) (fun hHeld => ?_)
  clear hK K
  refine norm_ (a' := ?_) ?_ ?_
  rotate_left
  · show Act.put _ (some 114) _ = _
    simp only [Act.put, List.setIfInBounds_toArray, List.set_cons_zero, List.set_cons_succ, i64_w, i32_w]
    rfl
  -- 8: t115 := call (Callee.value F90) [t107, t109, t110, t114] : 0 
  refine last_ (i := 8) (N := some 115) #[true, true, true, true, true, true, true, true, true] rfl rfl (one_of HT_.out (by kernel_rfl)) (by decide) (fun K hK => ?_)
  refine goes_ Try.func90 (by kernel_rfl) rfl #[.agg #[.string fam], .iface 110 (.pointer (some ⟨g, 0, none⟩)), .int .i64 at_, .slice (some ⟨W1.heap.size, 0, none⟩) 1 1] (by rfl) rfl rfl (by (try simp only [List.map_toArray, List.map_cons, List.map_nil]); first | done | rfl) ?_
  refine (ptSet_any fam at_ _ 1 [Op3.tag b1 tag] g base xs w0 _ HC.out HOK.out (by simp) HG.out HB.out HL.out).mono ?_
  rintro e_ w9 ⟨rfl, h1, h2⟩
  refine ⟨_, rfl, ?_⟩
  refine hK.out _ _ ?_
  clear hK K
  refine done_ (done_of HT_.out (by kernel_rfl)) ?_
  go_wp2
  go_end0
  have HS : setTM fam at_ [Op3.tag b1 tag] = stepTM fam tag true at_ 0 hat := by simp [setTM, stepTM, appAll, Op3.app]
  exact ⟨rfl, by rw [← HS]; exact h1, h2⟩
def timerSet_t0e.T14 : Bool × List (List Nat × List Nat) := (true, [([], []), ([], []), ([1], [1]), ([], []), ([], []), ([4], [4]), ([5], [5]), ([6], [6]), ([0, 2, 3, 7, 6], [0, 2, 3, 7])])
def timerSet_t0e.B14 : List Nat := [0, 0, 2, 0, 0, 16, 48, 112, 255]
theorem timerSet_t0e.tab14 : rtab .any (opsOf Try.f54 14) = timerSet_t0e.T14 := by kernel_rfl
theorem timerSet_t0e.bits14 : waitsOk timerSet_t0e.T14.2 timerSet_t0e.B14 = true := by kernel_rfl
set_option maxRecDepth 100000 in
set_option maxHeartbeats 4000000 in
theorem timerSet_t0e (fam tag : ByteArray) (op at_ hat : Int) (g base : Nat) (xs : List TM) (w0 w : World) (hG : GV w g base xs) (hB : Below base w0 w) (hl : xs.length ≤ 1000000000) :
    Calls Try.prog 54 #[.pointer (some ⟨g, 0, none⟩), .agg #[.bool false, .string fam, .int .i64 op, .int .i64 at_, .string tag, .bool true, .int .i64 0, .int .i64 hat], .int .i64 at_, .agg #[.string fam], .agg #[.string fam]] w fun e w' => e = .returned (.tuple #[]) ∧ GV w' g base (xs ++ [stepTM fam tag true at_ 0 hat]) ∧ Below base w0 w' := by
  have HBS := Aside0.mk (show base ≤ w.heap.size by obtain ⟨v, h1, _, h3⟩ := hG; have := blk_lt h1; omega)
  have HW := Aside0.mk (below_alloc (below_alloc (below_alloc (Below.refl w.heap.size w) (.cells #[.bool false, .string fam, .int .i64 op, .int .i64 at_, .string tag, .bool true, .int .i64 0, .int .i64 hat] 44)) (.cells #[.string fam] 115)) (.cells #[.string fam] 117))
  have B1 := Aside0.mk (blk_alloc (blk_alloc (heap_alloc_new w (.cells #[.bool false, .string fam, .int .i64 op, .int .i64 at_, .string tag, .bool true, .int .i64 0, .int .i64 hat] 44)) (.cells #[.string fam] 115)) (.cells #[.string fam] 117))
  have B2 := Aside0.mk (blk_alloc (heap_alloc_new (w.alloc (.cells #[.bool false, .string fam, .int .i64 op, .int .i64 at_, .string tag, .bool true, .int .i64 0, .int .i64 hat] 44)) (.cells #[.string fam] 115)) (.cells #[.string fam] 117))
  have B3 := Aside0.mk (heap_alloc_new ((w.alloc (.cells #[.bool false, .string fam, .int .i64 op, .int .i64 at_, .string tag, .bool true, .int .i64 0, .int .i64 hat] 44)).alloc (.cells #[.string fam] 115)) (.cells #[.string fam] 117))
  simp only [World.size_alloc] at B2 B3
  have HG := Aside0.mk (hG.below HW.out)
  have HB := Aside0.mk (below_then hB HBS.out HW.out)
  have HL := Aside0.mk hl
  clear hG hB hl
  have KS := Aside0.mk (fun (z : World) (h1 : z.heap[w.heap.size]? = some (.cells #[.bool false, .string fam, .int .i64 op, .int .i64 at_, .string tag, .bool true, .int .i64 0, .int .i64 hat] 44 (0, 0))) (h2 : z.heap[w.heap.size + 1]? = some (.cells #[.string fam] 115 (0, 0))) => (⟨(blk_cell h2 0).trans rfl, (blk_cell h1 4).trans rfl⟩ : z.cell? ⟨w.heap.size + 1, 0, none⟩ = some (.string fam) ∧ z.cell? ⟨w.heap.size, 4, none⟩ = some (.string tag)))
  have B1 := Aside0.mk (blk_drew B1.out)
  have B3 := Aside0.mk (blk_drew B2.out)
  have K0 := KS.out _ B1.out B3.out
  have HG := Aside0.mk (HG.out.below (below_drew (Below.refl _ _)))
  have HB := Aside0.mk (below_drew HB.out)
  have HBS := Aside0.mk (Nat.le_trans HBS.out (below_drew HW.out).size)
  clear HW B2
  go_enter Try.func54, Try.ntmps54
  go_wp2_with fail
  refine start_ (n := 9) (S := fun w' => w'.cell? ⟨w.heap.size + 1, 0, none⟩ = some (.string fam) ∧ w'.cell? ⟨w.heap.size, 4, none⟩ = some (.string tag)) (ds := [8]) #[false, false, false, false, false, false, false, false, false] (by kernel_rfl) rfl rfl K0 (fun hHeld => ?_)
  refine with_tabW timerSet_t0e.tab14 timerSet_t0e.bits14 (fun HT_ HW_ => ?_)
  generalize (((w.alloc (.cells #[.bool false, .string fam, .int .i64 op, .int .i64 at_, .string tag, .bool true, .int .i64 0, .int .i64 hat] 44)).alloc (.cells #[.string fam] 115)).alloc (.cells #[.string fam] 117)).drew = W at *
  -- 1: t120 := move t0 : 110 
  refine pure_ (i := 1) (N := some 120) (v := ?_) (a' := ?_) #[false, true, false, false, false, false, false, false, false] rfl rfl (any_of HT_.out (by kernel_rfl)) (fun _ _ _ h => h) (Or.inl ⟨by rfl, ?_⟩) ?_ ?_
  rotate_left
  · intro w'
    go_simp
    with_reducible rfl
  rotate_left
  · simp only [Act.put, List.setIfInBounds_toArray, List.set_cons_zero, List.set_cons_succ, i64_w, i32_w]
    rfl
  -- 2: t121 := makeInterface 110 t120 : 176 
  refine pure_ (i := 2) (N := some 121) (v := ?_) (a' := ?_) #[false, true, true, false, false, false, false, false, false] rfl rfl (any_of HT_.out (by kernel_rfl)) (fun _ _ _ h => h) (Or.inl ⟨by rfl, ?_⟩) ?_ ?_
  rotate_left
  · intro w'
    go_simp
    with_reducible rfl
  rotate_left
  · simp only [Act.put, List.setIfInBounds_toArray, List.set_cons_zero, List.set_cons_succ, i64_w, i32_w]
    rfl
  -- 3: t122 := move t2 : 113 
  refine pure_ (i := 3) (N := some 122) (v := ?_) (a' := ?_) #[false, true, true, true, false, false, false, false, false] rfl rfl (any_of HT_.out (by kernel_rfl)) (fun _ _ _ h => h) (Or.inl ⟨by rfl, ?_⟩) ?_ ?_
  rotate_left
  · intro w'
    go_simp
    with_reducible rfl
  rotate_left
  · simp only [Act.put, List.setIfInBounds_toArray, List.set_cons_zero, List.set_cons_succ, i64_w, i32_w]
    rfl
  -- 4: t123 := fieldAddr 44 t6 4 : 0 
  refine pure_ (i := 4) (N := some 123) (v := ?_) (a' := ?_) #[false, true, true, true, true, false, false, false, false] rfl rfl (any_of HT_.out (by kernel_rfl)) (fun _ _ _ h => h) (Or.inl ⟨by rfl, ?_⟩) ?_ ?_
  rotate_left
  · intro w'
    go_simp
    with_reducible rfl
  rotate_left
  · simp only [Act.put, List.setIfInBounds_toArray, List.set_cons_zero, List.set_cons_succ, i64_w, i32_w]
    rfl
  -- 0: t119 := load 115 t8 : 115 
  refine take_ (i := 0) (N := some 119) (v := ?_) (a' := ?_) #[true, true, true, true, true, false, false, false, false] rfl rfl (take_ofW HT_.out HW_.out (by kernel_rfl)) (fun _ _ _ h => h) (Or.inl ⟨by rfl, ?_⟩) hHeld ?_ ?_
  rotate_left
  · rintro w' ⟨s0, s1⟩
    go_simp
    with_reducible rfl
  rotate_left
  · simp only [Act.put, List.setIfInBounds_toArray, List.set_cons_zero, List.set_cons_succ, i64_w, i32_w]
    rfl
  -- 5: t124 := load 9 t123 : 9 
  refine take_ (i := 5) (N := some 124) (v := ?_) (a' := ?_) #[true, true, true, true, true, true, false, false, false] rfl rfl (take_ofW HT_.out HW_.out (by kernel_rfl)) (fun _ _ _ h => h) (Or.inl ⟨by rfl, ?_⟩) hHeld ?_ ?_
  rotate_left
  · rintro w' ⟨s0, s1⟩
    go_simp
    with_reducible rfl
  rotate_left
  · simp only [Act.put, List.setIfInBounds_toArray, List.set_cons_zero, List.set_cons_succ, i64_w, i32_w]
    rfl
  -- 6: t125 := call (Callee.value F91) [t124] : 182 
  refine one_ (i := 6) (N := some 125) #[true, true, true, true, true, true, true, false, false] rfl rfl (one_of HT_.out (by kernel_rfl)) (by decide) (fun K hK => ?_)
  refine goes_ Try.func91 (by kernel_rfl) rfl #[.string tag] (by rfl) rfl rfl (by (try simp only [List.map_toArray, List.map_cons, List.map_nil]); first | done | rfl) ?_
  refine (withTag_any tag _).mono ?_
  rintro e_ W1 ⟨b1, rfl, ho1, hb1⟩
  refine ⟨_, rfl, ?_⟩
  have B1 := Aside0.mk (blk_below B1.out hb1)
  have B3 := Aside0.mk (blk_below B3.out hb1)
  have HG := Aside0.mk (HG.out.below hb1)
  have HB := Aside0.mk (below_then HB.out HBS.out hb1)
  have HBS := Aside0.mk (Nat.le_trans HBS.out hb1.size)
  have HO1 := Aside0.mk ho1
  clear hb1 ho1
  refine hK.out _ _ (KS.out _ B1.out B3.out) (fun hHeld => ?_)
  clear hK K
  refine norm_ (a' := ?_) ?_ ?_
  rotate_left
  · show Act.put _ (some 125) _ = _
    simp only [Act.put, List.setIfInBounds_toArray, List.set_cons_zero, List.set_cons_succ, i64_w, i32_w]
    rfl
  -- 7: t126 := buildSlice 237 1 [(0, t125)] : 237 
  refine one_ (i := 7) (N := some 126) #[true, true, true, true, true, true, true, true, false] rfl rfl (one_of HT_.out (by kernel_rfl)) (by decide) (fun K hK => ?_)
  refine event_step (v := .slice (some ⟨W1.heap.size, 0, none⟩) 1 1) (w1 := W1.alloc (.cells #[.func (.func 125) #[] #[.pointer (some ⟨b1, 0, none⟩)]] 182)) (by rfl) (by first | (go_simp; done) | (go_simp; rfl)) ?_
  have HC := Aside0.mk (C_lit (enc := Op3.val) (h1 := Op3.val_one) (xs := [Op3.tag b1 tag]) (heap_alloc_new W1 (.cells #[.func (.func 125) #[] #[.pointer (some ⟨b1, 0, none⟩)]] 182)) rfl (by simp))
  have HOK := Aside0.mk (show ∀ k, k < [Op3.tag b1 tag].length → (rdOp [Op3.tag b1 tag] k).ok (W1.alloc (.cells #[.func (.func 125) #[] #[.pointer (some ⟨b1, 0, none⟩)]] 182)) from fun k hk => by
    obtain rfl : k = 0 := by simpa using hk
    exact Op3.ok_below HO1.out (below_alloc (Below.refl _ _) _))
  have B1 := Aside0.mk (blk_alloc B1.out (.cells #[.func (.func 125) #[] #[.pointer (some ⟨b1, 0, none⟩)]] 182))
  have B3 := Aside0.mk (blk_alloc B3.out (.cells #[.func (.func 125) #[] #[.pointer (some ⟨b1, 0, none⟩)]] 182))
  have HG := Aside0.mk (HG.out.below (below_alloc (Below.refl _ _) (.cells #[.func (.func 125) #[] #[.pointer (some ⟨b1, 0, none⟩)]] 182)))
  have HB := Aside0.mk (HB.out.alloc HBS.out (.cells #[.func (.func 125) #[] #[.pointer (some ⟨b1, 0, none⟩)]] 182))
  refine hK.out _ _ (KS.out _ B1.out B3.out) (fun hHeld => ?_)
  clear hK K
  refine norm_ (a' := ?_) ?_ ?_
  rotate_left
  · show Act.put _ (some 126) _ = _
    simp only [Act.put, List.setIfInBounds_toArray, List.set_cons_zero, List.set_cons_succ, i64_w, i32_w]
    rfl
  -- 8: t127 := call (Callee.value F93) [t119, t121, t122, t126] : 0 
  refine last_ (i := 8) (N := some 127) #[true, true, true, true, true, true, true, true, true] rfl rfl (one_of HT_.out (by kernel_rfl)) (by decide) (fun K hK => ?_)
  refine goes_ Try.func93 (by kernel_rfl) rfl #[.agg #[.string fam], .iface 110 (.pointer (some ⟨g, 0, none⟩)), .int .i64 at_, .slice (some ⟨W1.heap.size, 0, none⟩) 1 1] (by rfl) rfl rfl (by (try simp only [List.map_toArray, List.map_cons, List.map_nil]); first | done | rfl) ?_
  refine (etSet_any fam at_ _ 1 [Op3.tag b1 tag] g base xs w0 _ HC.out HOK.out (by simp) HG.out HB.out HL.out).mono ?_
  rintro e_ w9 ⟨rfl, h1, h2⟩
  refine ⟨_, rfl, ?_⟩
  refine hK.out _ _ ?_
  clear hK K
  refine done_ (done_of HT_.out (by kernel_rfl)) ?_
  go_wp2
  go_end0
  have HS : setTM fam at_ [Op3.tag b1 tag] = stepTM fam tag true at_ 0 hat := by simp [setTM, stepTM, appAll, Op3.app]
  exact ⟨rfl, by rw [← HS]; exact h1, h2⟩
def timerSet_f1p.T16 : Bool × List (List Nat × List Nat) := (true, [([], []), ([], []), ([1], [1]), ([], []), ([], []), ([4], [4]), ([5], [5]), ([0, 2, 3, 6, 5], [0, 2, 3, 6])])
def timerSet_f1p.B16 : List Nat := [0, 0, 2, 0, 0, 16, 48, 127]
theorem timerSet_f1p.tab16 : rtab .any (opsOf Try.f54 16) = timerSet_f1p.T16 := by kernel_rfl
theorem timerSet_f1p.bits16 : waitsOk timerSet_f1p.T16.2 timerSet_f1p.B16 = true := by kernel_rfl
set_option maxRecDepth 100000 in
set_option maxHeartbeats 4000000 in
theorem timerSet_f1p (fam tag : ByteArray) (op at_ hat : Int) (g base : Nat) (xs : List TM) (w0 w : World) (hG : GV w g base xs) (hB : Below base w0 w) (hl : xs.length ≤ 1000000000) :
    Calls Try.prog 54 #[.pointer (some ⟨g, 0, none⟩), .agg #[.bool true, .string fam, .int .i64 op, .int .i64 at_, .string tag, .bool false, .int .i64 1, .int .i64 hat], .int .i64 at_, .agg #[.string fam], .agg #[.string fam]] w fun e w' => e = .returned (.tuple #[]) ∧ GV w' g base (xs ++ [stepTM fam tag false at_ 1 hat]) ∧ Below base w0 w' := by
  have HBS := Aside0.mk (show base ≤ w.heap.size by obtain ⟨v, h1, _, h3⟩ := hG; have := blk_lt h1; omega)
  have HW := Aside0.mk (below_alloc (below_alloc (below_alloc (Below.refl w.heap.size w) (.cells #[.bool true, .string fam, .int .i64 op, .int .i64 at_, .string tag, .bool false, .int .i64 1, .int .i64 hat] 44)) (.cells #[.string fam] 115)) (.cells #[.string fam] 117))
  have B1 := Aside0.mk (blk_alloc (blk_alloc (heap_alloc_new w (.cells #[.bool true, .string fam, .int .i64 op, .int .i64 at_, .string tag, .bool false, .int .i64 1, .int .i64 hat] 44)) (.cells #[.string fam] 115)) (.cells #[.string fam] 117))
  have B2 := Aside0.mk (blk_alloc (heap_alloc_new (w.alloc (.cells #[.bool true, .string fam, .int .i64 op, .int .i64 at_, .string tag, .bool false, .int .i64 1, .int .i64 hat] 44)) (.cells #[.string fam] 115)) (.cells #[.string fam] 117))
  have B3 := Aside0.mk (heap_alloc_new ((w.alloc (.cells #[.bool true, .string fam, .int .i64 op, .int .i64 at_, .string tag, .bool false, .int .i64 1, .int .i64 hat] 44)).alloc (.cells #[.string fam] 115)) (.cells #[.string fam] 117))
  simp only [World.size_alloc] at B2 B3
  have HG := Aside0.mk (hG.below HW.out)
  have HB := Aside0.mk (below_then hB HBS.out HW.out)
  have HL := Aside0.mk hl
  clear hG hB hl
  have KS := Aside0.mk (fun (z : World) (h1 : z.heap[w.heap.size]? = some (.cells #[.bool true, .string fam, .int .i64 op, .int .i64 at_, .string tag, .bool false, .int .i64 1, .int .i64 hat] 44 (0, 0))) (h2 : z.heap[w.heap.size + 1 + 1]? = some (.cells #[.string fam] 117 (0, 0))) => ((blk_cell h2 0).trans rfl : z.cell? ⟨w.heap.size + 1 + 1, 0, none⟩ = some (.string fam)))
  have B1 := Aside0.mk (blk_drew B1.out)
  have B3 := Aside0.mk (blk_drew B3.out)
  have K0 := KS.out _ B1.out B3.out
  have HG := Aside0.mk (HG.out.below (below_drew (Below.refl _ _)))
  have HB := Aside0.mk (below_drew HB.out)
  have HBS := Aside0.mk (Nat.le_trans HBS.out (below_drew HW.out).size)
  clear HW B2
  go_enter Try.func54, Try.ntmps54
  go_wp2_with fail
  refine start_ (n := 8) (S := fun w' => w'.cell? ⟨w.heap.size + 1 + 1, 0, none⟩ = some (.string fam)) (ds := [7]) #[false, false, false, false, false, false, false, false] (by kernel_rfl) rfl rfl K0 (fun hHeld => ?_)
  refine with_tabW timerSet_f1p.tab16 timerSet_f1p.bits16 (fun HT_ HW_ => ?_)
  generalize (((w.alloc (.cells #[.bool true, .string fam, .int .i64 op, .int .i64 at_, .string tag, .bool false, .int .i64 1, .int .i64 hat] 44)).alloc (.cells #[.string fam] 115)).alloc (.cells #[.string fam] 117)).drew = W at *
  -- 1: t137 := move t0 : 110 
  refine pure_ (i := 1) (N := some 137) (v := ?_) (a' := ?_) #[false, true, false, false, false, false, false, false] rfl rfl (any_of HT_.out (by kernel_rfl)) (fun _ _ _ h => h) (Or.inl ⟨by rfl, ?_⟩) ?_ ?_
  rotate_left
  · intro w'
    go_simp
    with_reducible rfl
  rotate_left
  · simp only [Act.put, List.setIfInBounds_toArray, List.set_cons_zero, List.set_cons_succ, i64_w, i32_w]
    rfl
  -- 2: t138 := makeInterface 110 t137 : 176 
  refine pure_ (i := 2) (N := some 138) (v := ?_) (a' := ?_) #[false, true, true, false, false, false, false, false] rfl rfl (any_of HT_.out (by kernel_rfl)) (fun _ _ _ h => h) (Or.inl ⟨by rfl, ?_⟩) ?_ ?_
  rotate_left
  · intro w'
    go_simp
    with_reducible rfl
  rotate_left
  · simp only [Act.put, List.setIfInBounds_toArray, List.set_cons_zero, List.set_cons_succ, i64_w, i32_w]
    rfl
  -- 3: t139 := move t2 : 113 
  refine pure_ (i := 3) (N := some 139) (v := ?_) (a' := ?_) #[false, true, true, true, false, false, false, false] rfl rfl (any_of HT_.out (by kernel_rfl)) (fun _ _ _ h => h) (Or.inl ⟨by rfl, ?_⟩) ?_ ?_
  rotate_left
  · intro w'
    go_simp
    with_reducible rfl
  rotate_left
  · simp only [Act.put, List.setIfInBounds_toArray, List.set_cons_zero, List.set_cons_succ, i64_w, i32_w]
    rfl
  -- 4: t140 := move t10 : 113 
  refine pure_ (i := 4) (N := some 140) (v := ?_) (a' := ?_) #[false, true, true, true, true, false, false, false] rfl rfl (any_of HT_.out (by kernel_rfl)) (fun _ _ _ h => h) (Or.inl ⟨by rfl, ?_⟩) ?_ ?_
  rotate_left
  · intro w'
    go_simp
    with_reducible rfl
  rotate_left
  · simp only [Act.put, List.setIfInBounds_toArray, List.set_cons_zero, List.set_cons_succ, i64_w, i32_w]
    rfl
  -- 0: t136 := load 117 t9 : 117 
  refine take_ (i := 0) (N := some 136) (v := ?_) (a' := ?_) #[true, true, true, true, true, false, false, false] rfl rfl (take_ofW HT_.out HW_.out (by kernel_rfl)) (fun _ _ _ h => h) (Or.inl ⟨by rfl, ?_⟩) hHeld ?_ ?_
  rotate_left
  · rintro w' s0
    go_simp
    with_reducible rfl
  rotate_left
  · simp only [Act.put, List.setIfInBounds_toArray, List.set_cons_zero, List.set_cons_succ, i64_w, i32_w]
    rfl
  -- 5: t141 := call (Callee.value F92) [t140] : 182 
  refine one_ (i := 5) (N := some 141) #[true, true, true, true, true, true, false, false] rfl rfl (one_of HT_.out (by kernel_rfl)) (by decide) (fun K hK => ?_)
  refine goes_ Try.func92 (by kernel_rfl) rfl #[.int .i64 hat] (by rfl) rfl rfl (by (try simp only [List.map_toArray, List.map_cons, List.map_nil]); first | done | rfl) ?_
  refine (withHold_any hat _).mono ?_
  rintro e_ W1 ⟨b1, rfl, ho1, hb1⟩
  refine ⟨_, rfl, ?_⟩
  have B1 := Aside0.mk (blk_below B1.out hb1)
  have B3 := Aside0.mk (blk_below B3.out hb1)
  have HG := Aside0.mk (HG.out.below hb1)
  have HB := Aside0.mk (below_then HB.out HBS.out hb1)
  have HBS := Aside0.mk (Nat.le_trans HBS.out hb1.size)
  have HO1 := Aside0.mk ho1
  clear hb1 ho1
  refine hK.out _ _ (KS.out _ B1.out B3.out) (fun hHeld => ?_)
  clear hK K
  refine norm_ (a' := ?_) ?_ ?_
  rotate_left
  · show Act.put _ (some 141) _ = _
    simp only [Act.put, List.setIfInBounds_toArray, List.set_cons_zero, List.set_cons_succ, i64_w, i32_w]
    rfl
  -- 6: t142 := buildSlice 237 1 [(0, t141)] : 237 
  refine one_ (i := 6) (N := some 142) #[true, true, true, true, true, true, true, false] rfl rfl (one_of HT_.out (by kernel_rfl)) (by decide) (fun K hK => ?_)
  refine event_step (v := .slice (some ⟨W1.heap.size, 0, none⟩) 1 1) (w1 := W1.alloc (.cells #[.func (.func 126) #[] #[.pointer (some ⟨b1, 0, none⟩)]] 182)) (by rfl) (by first | (go_simp; done) | (go_simp; rfl)) ?_
  have HC := Aside0.mk (C_lit (enc := Op3.val) (h1 := Op3.val_one) (xs := [Op3.hold b1 hat]) (heap_alloc_new W1 (.cells #[.func (.func 126) #[] #[.pointer (some ⟨b1, 0, none⟩)]] 182)) rfl (by simp))
  have HOK := Aside0.mk (show ∀ k, k < [Op3.hold b1 hat].length → (rdOp [Op3.hold b1 hat] k).ok (W1.alloc (.cells #[.func (.func 126) #[] #[.pointer (some ⟨b1, 0, none⟩)]] 182)) from fun k hk => by
    obtain rfl : k = 0 := by simpa using hk
    exact Op3.ok_below HO1.out (below_alloc (Below.refl _ _) _))
  have B1 := Aside0.mk (blk_alloc B1.out (.cells #[.func (.func 126) #[] #[.pointer (some ⟨b1, 0, none⟩)]] 182))
  have B3 := Aside0.mk (blk_alloc B3.out (.cells #[.func (.func 126) #[] #[.pointer (some ⟨b1, 0, none⟩)]] 182))
  have HG := Aside0.mk (HG.out.below (below_alloc (Below.refl _ _) (.cells #[.func (.func 126) #[] #[.pointer (some ⟨b1, 0, none⟩)]] 182)))
  have HB := Aside0.mk (HB.out.alloc HBS.out (.cells #[.func (.func 126) #[] #[.pointer (some ⟨b1, 0, none⟩)]] 182))
  refine hK.out _ _ (KS.out _ B1.out B3.out) (fun hHeld => ?_)
  clear hK K
  refine norm_ (a' := ?_) ?_ ?_
  rotate_left
  · show Act.put _ (some 142) _ = _
    simp only [Act.put, List.setIfInBounds_toArray, List.set_cons_zero, List.set_cons_succ, i64_w, i32_w]
    rfl
  -- 7: t143 := call (Callee.value F90) [t136, t138, t139, t142] : 0 
  refine last_ (i := 7) (N := some 143) #[true, true, true, true, true, true, true, true] rfl rfl (one_of HT_.out (by kernel_rfl)) (by decide) (fun K hK => ?_)
  refine goes_ Try.func90 (by kernel_rfl) rfl #[.agg #[.string fam], .iface 110 (.pointer (some ⟨g, 0, none⟩)), .int .i64 at_, .slice (some ⟨W1.heap.size, 0, none⟩) 1 1] (by rfl) rfl rfl (by (try simp only [List.map_toArray, List.map_cons, List.map_nil]); first | done | rfl) ?_
  refine (ptSet_any fam at_ _ 1 [Op3.hold b1 hat] g base xs w0 _ HC.out HOK.out (by simp) HG.out HB.out HL.out).mono ?_
  rintro e_ w9 ⟨rfl, h1, h2⟩
  refine ⟨_, rfl, ?_⟩
  refine hK.out _ _ ?_
  clear hK K
  refine done_ (done_of HT_.out (by kernel_rfl)) ?_
  go_wp2
  go_end0
  have HS : setTM fam at_ [Op3.hold b1 hat] = stepTM fam tag false at_ 1 hat := by simp [setTM, stepTM, appAll, Op3.app]
  exact ⟨rfl, by rw [← HS]; exact h1, h2⟩
def timerSet_f1e.T18 : Bool × List (List Nat × List Nat) := (true, [([], []), ([], []), ([1], [1]), ([], []), ([], []), ([4], [4]), ([5], [5]), ([0, 2, 3, 6, 5], [0, 2, 3, 6])])
def timerSet_f1e.B18 : List Nat := [0, 0, 2, 0, 0, 16, 48, 127]
theorem timerSet_f1e.tab18 : rtab .any (opsOf Try.f54 18) = timerSet_f1e.T18 := by kernel_rfl
theorem timerSet_f1e.bits18 : waitsOk timerSet_f1e.T18.2 timerSet_f1e.B18 = true := by kernel_rfl
set_option maxRecDepth 100000 in
set_option maxHeartbeats 4000000 in
theorem timerSet_f1e (fam tag : ByteArray) (op at_ hat : Int) (g base : Nat) (xs : List TM) (w0 w : World) (hG : GV w g base xs) (hB : Below base w0 w) (hl : xs.length ≤ 1000000000) :
    Calls Try.prog 54 #[.pointer (some ⟨g, 0, none⟩), .agg #[.bool false, .string fam, .int .i64 op, .int .i64 at_, .string tag, .bool false, .int .i64 1, .int .i64 hat], .int .i64 at_, .agg #[.string fam], .agg #[.string fam]] w fun e w' => e = .returned (.tuple #[]) ∧ GV w' g base (xs ++ [stepTM fam tag false at_ 1 hat]) ∧ Below base w0 w' := by
  have HBS := Aside0.mk (show base ≤ w.heap.size by obtain ⟨v, h1, _, h3⟩ := hG; have := blk_lt h1; omega)
  have HW := Aside0.mk (below_alloc (below_alloc (below_alloc (Below.refl w.heap.size w) (.cells #[.bool false, .string fam, .int .i64 op, .int .i64 at_, .string tag, .bool false, .int .i64 1, .int .i64 hat] 44)) (.cells #[.string fam] 115)) (.cells #[.string fam] 117))
  have B1 := Aside0.mk (blk_alloc (blk_alloc (heap_alloc_new w (.cells #[.bool false, .string fam, .int .i64 op, .int .i64 at_, .string tag, .bool false, .int .i64 1, .int .i64 hat] 44)) (.cells #[.string fam] 115)) (.cells #[.string fam] 117))
  have B2 := Aside0.mk (blk_alloc (heap_alloc_new (w.alloc (.cells #[.bool false, .string fam, .int .i64 op, .int .i64 at_, .string tag, .bool false, .int .i64 1, .int .i64 hat] 44)) (.cells #[.string fam] 115)) (.cells #[.string fam] 117))
  have B3 := Aside0.mk (heap_alloc_new ((w.alloc (.cells #[.bool false, .string fam, .int .i64 op, .int .i64 at_, .string tag, .bool false, .int .i64 1, .int .i64 hat] 44)).alloc (.cells #[.string fam] 115)) (.cells #[.string fam] 117))
  simp only [World.size_alloc] at B2 B3
  have HG := Aside0.mk (hG.below HW.out)
  have HB := Aside0.mk (below_then hB HBS.out HW.out)
  have HL := Aside0.mk hl
  clear hG hB hl
  have KS := Aside0.mk (fun (z : World) (h1 : z.heap[w.heap.size]? = some (.cells #[.bool false, .string fam, .int .i64 op, .int .i64 at_, .string tag, .bool false, .int .i64 1, .int .i64 hat] 44 (0, 0))) (h2 : z.heap[w.heap.size + 1]? = some (.cells #[.string fam] 115 (0, 0))) => ((blk_cell h2 0).trans rfl : z.cell? ⟨w.heap.size + 1, 0, none⟩ = some (.string fam)))
  have B1 := Aside0.mk (blk_drew B1.out)
  have B3 := Aside0.mk (blk_drew B2.out)
  have K0 := KS.out _ B1.out B3.out
  have HG := Aside0.mk (HG.out.below (below_drew (Below.refl _ _)))
  have HB := Aside0.mk (below_drew HB.out)
  have HBS := Aside0.mk (Nat.le_trans HBS.out (below_drew HW.out).size)
  clear HW B2
  go_enter Try.func54, Try.ntmps54
  go_wp2_with fail
  refine start_ (n := 8) (S := fun w' => w'.cell? ⟨w.heap.size + 1, 0, none⟩ = some (.string fam)) (ds := [7]) #[false, false, false, false, false, false, false, false] (by kernel_rfl) rfl rfl K0 (fun hHeld => ?_)
  refine with_tabW timerSet_f1e.tab18 timerSet_f1e.bits18 (fun HT_ HW_ => ?_)
  generalize (((w.alloc (.cells #[.bool false, .string fam, .int .i64 op, .int .i64 at_, .string tag, .bool false, .int .i64 1, .int .i64 hat] 44)).alloc (.cells #[.string fam] 115)).alloc (.cells #[.string fam] 117)).drew = W at *
  -- 1: t149 := move t0 : 110 
  refine pure_ (i := 1) (N := some 149) (v := ?_) (a' := ?_) #[false, true, false, false, false, false, false, false] rfl rfl (any_of HT_.out (by kernel_rfl)) (fun _ _ _ h => h) (Or.inl ⟨by rfl, ?_⟩) ?_ ?_
  rotate_left
  · intro w'
    go_simp
    with_reducible rfl
  rotate_left
  · simp only [Act.put, List.setIfInBounds_toArray, List.set_cons_zero, List.set_cons_succ, i64_w, i32_w]
    rfl
  -- 2: t150 := makeInterface 110 t149 : 176 
  refine pure_ (i := 2) (N := some 150) (v := ?_) (a' := ?_) #[false, true, true, false, false, false, false, false] rfl rfl (any_of HT_.out (by kernel_rfl)) (fun _ _ _ h => h) (Or.inl ⟨by rfl, ?_⟩) ?_ ?_
  rotate_left
  · intro w'
    go_simp
    with_reducible rfl
  rotate_left
  · simp only [Act.put, List.setIfInBounds_toArray, List.set_cons_zero, List.set_cons_succ, i64_w, i32_w]
    rfl
  -- 3: t151 := move t2 : 113 
  refine pure_ (i := 3) (N := some 151) (v := ?_) (a' := ?_) #[false, true, true, true, false, false, false, false] rfl rfl (any_of HT_.out (by kernel_rfl)) (fun _ _ _ h => h) (Or.inl ⟨by rfl, ?_⟩) ?_ ?_
  rotate_left
  · intro w'
    go_simp
    with_reducible rfl
  rotate_left
  · simp only [Act.put, List.setIfInBounds_toArray, List.set_cons_zero, List.set_cons_succ, i64_w, i32_w]
    rfl
  -- 4: t152 := move t10 : 113 
  refine pure_ (i := 4) (N := some 152) (v := ?_) (a' := ?_) #[false, true, true, true, true, false, false, false] rfl rfl (any_of HT_.out (by kernel_rfl)) (fun _ _ _ h => h) (Or.inl ⟨by rfl, ?_⟩) ?_ ?_
  rotate_left
  · intro w'
    go_simp
    with_reducible rfl
  rotate_left
  · simp only [Act.put, List.setIfInBounds_toArray, List.set_cons_zero, List.set_cons_succ, i64_w, i32_w]
    rfl
  -- 0: t148 := load 115 t8 : 115 
  refine take_ (i := 0) (N := some 148) (v := ?_) (a' := ?_) #[true, true, true, true, true, false, false, false] rfl rfl (take_ofW HT_.out HW_.out (by kernel_rfl)) (fun _ _ _ h => h) (Or.inl ⟨by rfl, ?_⟩) hHeld ?_ ?_
  rotate_left
  · rintro w' s0
    go_simp
    with_reducible rfl
  rotate_left
  · simp only [Act.put, List.setIfInBounds_toArray, List.set_cons_zero, List.set_cons_succ, i64_w, i32_w]
    rfl
  -- 5: t153 := call (Callee.value F92) [t152] : 182 
  refine one_ (i := 5) (N := some 153) #[true, true, true, true, true, true, false, false] rfl rfl (one_of HT_.out (by kernel_rfl)) (by decide) (fun K hK => ?_)
  refine goes_ Try.func92 (by kernel_rfl) rfl #[.int .i64 hat] (by rfl) rfl rfl (by (try simp only [List.map_toArray, List.map_cons, List.map_nil]); first | done | rfl) ?_
  refine (withHold_any hat _).mono ?_
  rintro e_ W1 ⟨b1, rfl, ho1, hb1⟩
  refine ⟨_, rfl, ?_⟩
  have B1 := Aside0.mk (blk_below B1.out hb1)
  have B3 := Aside0.mk (blk_below B3.out hb1)
  have HG := Aside0.mk (HG.out.below hb1)
  have HB := Aside0.mk (below_then HB.out HBS.out hb1)
  have HBS := Aside0.mk (Nat.le_trans HBS.out hb1.size)
  have HO1 := Aside0.mk ho1
  clear hb1 ho1
  refine hK.out _ _ (KS.out _ B1.out B3.out) (fun hHeld => ?_)
  clear hK K
  refine norm_ (a' := ?_) ?_ ?_
  rotate_left
  · show Act.put _ (some 153) _ = _
    simp only [Act.put, List.setIfInBounds_toArray, List.set_cons_zero, List.set_cons_succ, i64_w, i32_w]
    rfl
  -- 6: t154 := buildSlice 237 1 [(0, t153)] : 237 
  refine one_ (i := 6) (N := some 154) #[true, true, true, true, true, true, true, false] rfl rfl (one_of HT_.out (by kernel_rfl)) (by decide) (fun K hK => ?_)
  refine event_step (v := .slice (some ⟨W1.heap.size, 0, none⟩) 1 1) (w1 := W1.alloc (.cells #[.func (.func 126) #[] #[.pointer (some ⟨b1, 0, none⟩)]] 182)) (by rfl) (by first | (go_simp; done) | (go_simp; rfl)) ?_
  have HC := Aside0.mk (C_lit (enc := Op3.val) (h1 := Op3.val_one) (xs := [Op3.hold b1 hat]) (heap_alloc_new W1 (.cells #[.func (.func 126) #[] #[.pointer (some ⟨b1, 0, none⟩)]] 182)) rfl (by simp))
  have HOK := Aside0.mk (show ∀ k, k < [Op3.hold b1 hat].length → (rdOp [Op3.hold b1 hat] k).ok (W1.alloc (.cells #[.func (.func 126) #[] #[.pointer (some ⟨b1, 0, none⟩)]] 182)) from fun k hk => by
    obtain rfl : k = 0 := by simpa using hk
    exact Op3.ok_below HO1.out (below_alloc (Below.refl _ _) _))
  have B1 := Aside0.mk (blk_alloc B1.out (.cells #[.func (.func 126) #[] #[.pointer (some ⟨b1, 0, none⟩)]] 182))
  have B3 := Aside0.mk (blk_alloc B3.out (.cells #[.func (.func 126) #[] #[.pointer (some ⟨b1, 0, none⟩)]] 182))
  have HG := Aside0.mk (HG.out.below (below_alloc (Below.refl _ _) (.cells #[.func (.func 126) #[] #[.pointer (some ⟨b1, 0, none⟩)]] 182)))
  have HB := Aside0.mk (HB.out.alloc HBS.out (.cells #[.func (.func 126) #[] #[.pointer (some ⟨b1, 0, none⟩)]] 182))
  refine hK.out _ _ (KS.out _ B1.out B3.out) (fun hHeld => ?_)
  clear hK K
  refine norm_ (a' := ?_) ?_ ?_
  rotate_left
  · show Act.put _ (some 154) _ = _
    simp only [Act.put, List.setIfInBounds_toArray, List.set_cons_zero, List.set_cons_succ, i64_w, i32_w]
    rfl
  -- 7: t155 := call (Callee.value F93) [t148, t150, t151, t154] : 0 
  refine last_ (i := 7) (N := some 155) #[true, true, true, true, true, true, true, true] rfl rfl (one_of HT_.out (by kernel_rfl)) (by decide) (fun K hK => ?_)
  refine goes_ Try.func93 (by kernel_rfl) rfl #[.agg #[.string fam], .iface 110 (.pointer (some ⟨g, 0, none⟩)), .int .i64 at_, .slice (some ⟨W1.heap.size, 0, none⟩) 1 1] (by rfl) rfl rfl (by (try simp only [List.map_toArray, List.map_cons, List.map_nil]); first | done | rfl) ?_
  refine (etSet_any fam at_ _ 1 [Op3.hold b1 hat] g base xs w0 _ HC.out HOK.out (by simp) HG.out HB.out HL.out).mono ?_
  rintro e_ w9 ⟨rfl, h1, h2⟩
  refine ⟨_, rfl, ?_⟩
  refine hK.out _ _ ?_
  clear hK K
  refine done_ (done_of HT_.out (by kernel_rfl)) ?_
  go_wp2
  go_end0
  have HS : setTM fam at_ [Op3.hold b1 hat] = stepTM fam tag false at_ 1 hat := by simp [setTM, stepTM, appAll, Op3.app]
  exact ⟨rfl, by rw [← HS]; exact h1, h2⟩
end Go.Proofs.Ytoigekmdicepnaa
