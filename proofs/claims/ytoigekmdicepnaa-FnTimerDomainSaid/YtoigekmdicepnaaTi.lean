/- Contracts: the options of a timer; a timer that is set with its options. -/
import Derived.Test.YtoigekmdicepnaaTf
set_option linter.unusedVariables false
set_option linter.unusedSimpArgs false
namespace Go.Proofs.Ytoigekmdicepnaa
open Go.RowKit Go.Proofs.YtoigekmdicepnaaW.PrintWords Go.Proofs.YtoigekmdicepnaaW.PrintLast Go.Proofs.YtoigekmdicepnaaW.PrintMore

def timerSet_f2p.T20 : Bool × List (List Nat × List Nat) := (true, [([], []), ([], []), ([1], [1]), ([], []), ([], []), ([4], [4]), ([0, 2, 3, 5, 4], [0, 2, 3, 5])])
def timerSet_f2p.B20 : List Nat := [0, 0, 2, 0, 0, 16, 63]
theorem timerSet_f2p.tab20 : rtab .any (opsOf Try.f54 20) = timerSet_f2p.T20 := by kernel_rfl
theorem timerSet_f2p.bits20 : waitsOk timerSet_f2p.T20.2 timerSet_f2p.B20 = true := by kernel_rfl
set_option maxRecDepth 100000 in
set_option maxHeartbeats 4000000 in
theorem timerSet_f2p (fam tag : ByteArray) (op at_ hat : Int) (g base : Nat) (xs : List TM) (w0 w : World) (hG : GV w g base xs) (hB : Below base w0 w) (hl : xs.length ≤ 1000000000) :
    Calls Try.prog 54 #[.pointer (some ⟨g, 0, none⟩), .agg #[.bool true, .string fam, .int .i64 op, .int .i64 at_, .string tag, .bool false, .int .i64 2, .int .i64 hat], .int .i64 at_, .agg #[.string fam], .agg #[.string fam]] w fun e w' => e = .returned (.tuple #[]) ∧ GV w' g base (xs ++ [stepTM fam tag false at_ 2 hat]) ∧ Below base w0 w' := by
  have HBS := Aside0.mk (show base ≤ w.heap.size by obtain ⟨v, h1, _, h3⟩ := hG; have := blk_lt h1; omega)
  have HW := Aside0.mk (below_alloc (below_alloc (below_alloc (Below.refl w.heap.size w) (.cells #[.bool true, .string fam, .int .i64 op, .int .i64 at_, .string tag, .bool false, .int .i64 2, .int .i64 hat] 44)) (.cells #[.string fam] 115)) (.cells #[.string fam] 117))
  have B1 := Aside0.mk (blk_alloc (blk_alloc (heap_alloc_new w (.cells #[.bool true, .string fam, .int .i64 op, .int .i64 at_, .string tag, .bool false, .int .i64 2, .int .i64 hat] 44)) (.cells #[.string fam] 115)) (.cells #[.string fam] 117))
  have B2 := Aside0.mk (blk_alloc (heap_alloc_new (w.alloc (.cells #[.bool true, .string fam, .int .i64 op, .int .i64 at_, .string tag, .bool false, .int .i64 2, .int .i64 hat] 44)) (.cells #[.string fam] 115)) (.cells #[.string fam] 117))
  have B3 := Aside0.mk (heap_alloc_new ((w.alloc (.cells #[.bool true, .string fam, .int .i64 op, .int .i64 at_, .string tag, .bool false, .int .i64 2, .int .i64 hat] 44)).alloc (.cells #[.string fam] 115)) (.cells #[.string fam] 117))
  simp only [World.size_alloc] at B2 B3
  have HG := Aside0.mk (hG.below HW.out)
  have HB := Aside0.mk (below_then hB HBS.out HW.out)
  have HL := Aside0.mk hl
  clear hG hB hl
  have KS := Aside0.mk (fun (z : World) (h1 : z.heap[w.heap.size]? = some (.cells #[.bool true, .string fam, .int .i64 op, .int .i64 at_, .string tag, .bool false, .int .i64 2, .int .i64 hat] 44 (0, 0))) (h2 : z.heap[w.heap.size + 1 + 1]? = some (.cells #[.string fam] 117 (0, 0))) => ((blk_cell h2 0).trans rfl : z.cell? ⟨w.heap.size + 1 + 1, 0, none⟩ = some (.string fam)))
  have B1 := Aside0.mk (blk_drew B1.out)
  have B3 := Aside0.mk (blk_drew B3.out)
  have K0 := KS.out _ B1.out B3.out
  have HG := Aside0.mk (HG.out.below (below_drew (Below.refl _ _)))
  have HB := Aside0.mk (below_drew HB.out)
  have HBS := Aside0.mk (Nat.le_trans HBS.out (below_drew HW.out).size)
  clear HW B2
  go_enter Try.func54, Try.ntmps54
  go_wp2_with fail
  refine start_ (n := 7) (S := fun w' => w'.cell? ⟨w.heap.size + 1 + 1, 0, none⟩ = some (.string fam)) (ds := [6]) #[false, false, false, false, false, false, false] (by kernel_rfl) rfl rfl K0 (fun hHeld => ?_)
  refine with_tabW timerSet_f2p.tab20 timerSet_f2p.bits20 (fun HT_ HW_ => ?_)
  generalize (((w.alloc (.cells #[.bool true, .string fam, .int .i64 op, .int .i64 at_, .string tag, .bool false, .int .i64 2, .int .i64 hat] 44)).alloc (.cells #[.string fam] 115)).alloc (.cells #[.string fam] 117)).drew = W at *
  -- 1: t165 := move t0 : 110 
  refine pure_ (i := 1) (N := some 165) (v := ?_) (a' := ?_) #[false, true, false, false, false, false, false] rfl rfl (any_of HT_.out (by kernel_rfl)) (fun _ _ _ h => h) (Or.inl ⟨by rfl, ?_⟩) ?_ ?_
  rotate_left
  · intro w'
    go_simp
    with_reducible rfl
  rotate_left
  · simp only [Act.put, List.setIfInBounds_toArray, List.set_cons_zero, List.set_cons_succ, i64_w, i32_w]
    rfl
  -- 2: t166 := makeInterface 110 t165 : 176 
  refine pure_ (i := 2) (N := some 166) (v := ?_) (a' := ?_) #[false, true, true, false, false, false, false] rfl rfl (any_of HT_.out (by kernel_rfl)) (fun _ _ _ h => h) (Or.inl ⟨by rfl, ?_⟩) ?_ ?_
  rotate_left
  · intro w'
    go_simp
    with_reducible rfl
  rotate_left
  · simp only [Act.put, List.setIfInBounds_toArray, List.set_cons_zero, List.set_cons_succ, i64_w, i32_w]
    rfl
  -- 3: t167 := move t2 : 113 
  refine pure_ (i := 3) (N := some 167) (v := ?_) (a' := ?_) #[false, true, true, true, false, false, false] rfl rfl (any_of HT_.out (by kernel_rfl)) (fun _ _ _ h => h) (Or.inl ⟨by rfl, ?_⟩) ?_ ?_
  rotate_left
  · intro w'
    go_simp
    with_reducible rfl
  rotate_left
  · simp only [Act.put, List.setIfInBounds_toArray, List.set_cons_zero, List.set_cons_succ, i64_w, i32_w]
    rfl
  -- 0: t164 := load 117 t9 : 117 
  refine take_ (i := 0) (N := some 164) (v := ?_) (a' := ?_) #[true, true, true, true, false, false, false] rfl rfl (take_ofW HT_.out HW_.out (by kernel_rfl)) (fun _ _ _ h => h) (Or.inl ⟨by rfl, ?_⟩) hHeld ?_ ?_
  rotate_left
  · rintro w' s0
    go_simp
    with_reducible rfl
  rotate_left
  · simp only [Act.put, List.setIfInBounds_toArray, List.set_cons_zero, List.set_cons_succ, i64_w, i32_w]
    rfl
  -- 4: t168 := call (Callee.value F94) [] : 182 
  refine one_ (i := 4) (N := some 168) #[true, true, true, true, true, false, false] rfl rfl (one_of HT_.out (by kernel_rfl)) (by decide) (fun K hK => ?_)
  refine goes_ Try.func94 (by kernel_rfl) rfl #[] (by rfl) rfl rfl (by (try simp only [List.map_toArray, List.map_cons, List.map_nil]); first | done | rfl) ?_
  refine (withNo_any _).mono ?_
  rintro e_ w5 ⟨rfl, rfl⟩
  refine ⟨_, rfl, ?_⟩
  refine hK.out _ _ hHeld (fun hHeld => ?_)
  clear hK K
  refine norm_ (a' := ?_) ?_ ?_
  rotate_left
  · show Act.put _ (some 168) _ = _
    simp only [Act.put, List.setIfInBounds_toArray, List.set_cons_zero, List.set_cons_succ, i64_w, i32_w]
    rfl
  -- 5: t169 := buildSlice 237 1 [(0, t168)] : 237 
  refine one_ (i := 5) (N := some 169) #[true, true, true, true, true, true, false] rfl rfl (one_of HT_.out (by kernel_rfl)) (by decide) (fun K hK => ?_)
  refine event_step (v := .slice (some ⟨W.heap.size, 0, none⟩) 1 1) (w1 := W.alloc (.cells #[.func (.func 127) #[] #[]] 182)) (by rfl) (by first | (go_simp; done) | (go_simp; rfl)) ?_
  have HC := Aside0.mk (C_lit (enc := Op3.val) (h1 := Op3.val_one) (xs := [Op3.no]) (heap_alloc_new W (.cells #[.func (.func 127) #[] #[]] 182)) rfl (by simp))
  have HOK := Aside0.mk (show ∀ k, k < [Op3.no].length → (rdOp [Op3.no] k).ok (W.alloc (.cells #[.func (.func 127) #[] #[]] 182)) from fun k hk => by
    obtain rfl : k = 0 := by simpa using hk
    exact trivial)
  have B1 := Aside0.mk (blk_alloc B1.out (.cells #[.func (.func 127) #[] #[]] 182))
  have B3 := Aside0.mk (blk_alloc B3.out (.cells #[.func (.func 127) #[] #[]] 182))
  have HG := Aside0.mk (HG.out.below (below_alloc (Below.refl _ _) (.cells #[.func (.func 127) #[] #[]] 182)))
  have HB := Aside0.mk (HB.out.alloc HBS.out (.cells #[.func (.func 127) #[] #[]] 182))
  refine hK.out _ _ (KS.out _ B1.out B3.out) (fun hHeld => ?_)
  clear hK K
  refine norm_ (a' := ?_) ?_ ?_
  rotate_left
  · show Act.put _ (some 169) _ = _
    simp only [Act.put, List.setIfInBounds_toArray, List.set_cons_zero, List.set_cons_succ, i64_w, i32_w]
    rfl
  -- 6: t170 := call (Callee.value F90) [t164, t166, t167, t169] : 0 
  refine last_ (i := 6) (N := some 170) #[true, true, true, true, true, true, true] rfl rfl (one_of HT_.out (by kernel_rfl)) (by decide) (fun K hK => ?_)
  refine goes_ Try.func90 (by kernel_rfl) rfl #[.agg #[.string fam], .iface 110 (.pointer (some ⟨g, 0, none⟩)), .int .i64 at_, .slice (some ⟨W.heap.size, 0, none⟩) 1 1] (by rfl) rfl rfl (by (try simp only [List.map_toArray, List.map_cons, List.map_nil]); first | done | rfl) ?_
  refine (ptSet_any fam at_ _ 1 [Op3.no] g base xs w0 _ HC.out HOK.out (by simp) HG.out HB.out HL.out).mono ?_
  rintro e_ w9 ⟨rfl, h1, h2⟩
  refine ⟨_, rfl, ?_⟩
  refine hK.out _ _ ?_
  clear hK K
  refine done_ (done_of HT_.out (by kernel_rfl)) ?_
  go_wp2
  go_end0
  have HS : setTM fam at_ [Op3.no] = stepTM fam tag false at_ 2 hat := by simp [setTM, stepTM, appAll, Op3.app]
  exact ⟨rfl, by rw [← HS]; exact h1, h2⟩
def timerSet_f2e.T22 : Bool × List (List Nat × List Nat) := (true, [([], []), ([], []), ([1], [1]), ([], []), ([], []), ([4], [4]), ([0, 2, 3, 5, 4], [0, 2, 3, 5])])
def timerSet_f2e.B22 : List Nat := [0, 0, 2, 0, 0, 16, 63]
theorem timerSet_f2e.tab22 : rtab .any (opsOf Try.f54 22) = timerSet_f2e.T22 := by kernel_rfl
theorem timerSet_f2e.bits22 : waitsOk timerSet_f2e.T22.2 timerSet_f2e.B22 = true := by kernel_rfl
set_option maxRecDepth 100000 in
set_option maxHeartbeats 4000000 in
theorem timerSet_f2e (fam tag : ByteArray) (op at_ hat : Int) (g base : Nat) (xs : List TM) (w0 w : World) (hG : GV w g base xs) (hB : Below base w0 w) (hl : xs.length ≤ 1000000000) :
    Calls Try.prog 54 #[.pointer (some ⟨g, 0, none⟩), .agg #[.bool false, .string fam, .int .i64 op, .int .i64 at_, .string tag, .bool false, .int .i64 2, .int .i64 hat], .int .i64 at_, .agg #[.string fam], .agg #[.string fam]] w fun e w' => e = .returned (.tuple #[]) ∧ GV w' g base (xs ++ [stepTM fam tag false at_ 2 hat]) ∧ Below base w0 w' := by
  have HBS := Aside0.mk (show base ≤ w.heap.size by obtain ⟨v, h1, _, h3⟩ := hG; have := blk_lt h1; omega)
  have HW := Aside0.mk (below_alloc (below_alloc (below_alloc (Below.refl w.heap.size w) (.cells #[.bool false, .string fam, .int .i64 op, .int .i64 at_, .string tag, .bool false, .int .i64 2, .int .i64 hat] 44)) (.cells #[.string fam] 115)) (.cells #[.string fam] 117))
  have B1 := Aside0.mk (blk_alloc (blk_alloc (heap_alloc_new w (.cells #[.bool false, .string fam, .int .i64 op, .int .i64 at_, .string tag, .bool false, .int .i64 2, .int .i64 hat] 44)) (.cells #[.string fam] 115)) (.cells #[.string fam] 117))
  have B2 := Aside0.mk (blk_alloc (heap_alloc_new (w.alloc (.cells #[.bool false, .string fam, .int .i64 op, .int .i64 at_, .string tag, .bool false, .int .i64 2, .int .i64 hat] 44)) (.cells #[.string fam] 115)) (.cells #[.string fam] 117))
  have B3 := Aside0.mk (heap_alloc_new ((w.alloc (.cells #[.bool false, .string fam, .int .i64 op, .int .i64 at_, .string tag, .bool false, .int .i64 2, .int .i64 hat] 44)).alloc (.cells #[.string fam] 115)) (.cells #[.string fam] 117))
  simp only [World.size_alloc] at B2 B3
  have HG := Aside0.mk (hG.below HW.out)
  have HB := Aside0.mk (below_then hB HBS.out HW.out)
  have HL := Aside0.mk hl
  clear hG hB hl
  have KS := Aside0.mk (fun (z : World) (h1 : z.heap[w.heap.size]? = some (.cells #[.bool false, .string fam, .int .i64 op, .int .i64 at_, .string tag, .bool false, .int .i64 2, .int .i64 hat] 44 (0, 0))) (h2 : z.heap[w.heap.size + 1]? = some (.cells #[.string fam] 115 (0, 0))) => ((blk_cell h2 0).trans rfl : z.cell? ⟨w.heap.size + 1, 0, none⟩ = some (.string fam)))
  have B1 := Aside0.mk (blk_drew B1.out)
  have B3 := Aside0.mk (blk_drew B2.out)
  have K0 := KS.out _ B1.out B3.out
  have HG := Aside0.mk (HG.out.below (below_drew (Below.refl _ _)))
  have HB := Aside0.mk (below_drew HB.out)
  have HBS := Aside0.mk (Nat.le_trans HBS.out (below_drew HW.out).size)
  clear HW B2
  go_enter Try.func54, Try.ntmps54
  go_wp2_with fail
  refine start_ (n := 7) (S := fun w' => w'.cell? ⟨w.heap.size + 1, 0, none⟩ = some (.string fam)) (ds := [6]) #[false, false, false, false, false, false, false] (by kernel_rfl) rfl rfl K0 (fun hHeld => ?_)
  refine with_tabW timerSet_f2e.tab22 timerSet_f2e.bits22 (fun HT_ HW_ => ?_)
  generalize (((w.alloc (.cells #[.bool false, .string fam, .int .i64 op, .int .i64 at_, .string tag, .bool false, .int .i64 2, .int .i64 hat] 44)).alloc (.cells #[.string fam] 115)).alloc (.cells #[.string fam] 117)).drew = W at *
  -- 1: t176 := move t0 : 110 
  refine pure_ (i := 1) (N := some 176) (v := ?_) (a' := ?_) #[false, true, false, false, false, false, false] rfl rfl (any_of HT_.out (by kernel_rfl)) (fun _ _ _ h => h) (Or.inl ⟨by rfl, ?_⟩) ?_ ?_
  rotate_left
  · intro w'
    go_simp
    with_reducible rfl
  rotate_left
  · simp only [Act.put, List.setIfInBounds_toArray, List.set_cons_zero, List.set_cons_succ, i64_w, i32_w]
    rfl
  -- 2: t177 := makeInterface 110 t176 : 176 
  refine pure_ (i := 2) (N := some 177) (v := ?_) (a' := ?_) #[false, true, true, false, false, false, false] rfl rfl (any_of HT_.out (by kernel_rfl)) (fun _ _ _ h => h) (Or.inl ⟨by rfl, ?_⟩) ?_ ?_
  rotate_left
  · intro w'
    go_simp
    with_reducible rfl
  rotate_left
  · simp only [Act.put, List.setIfInBounds_toArray, List.set_cons_zero, List.set_cons_succ, i64_w, i32_w]
    rfl
  -- 3: t178 := move t2 : 113 
  refine pure_ (i := 3) (N := some 178) (v := ?_) (a' := ?_) #[false, true, true, true, false, false, false] rfl rfl (any_of HT_.out (by kernel_rfl)) (fun _ _ _ h => h) (Or.inl ⟨by rfl, ?_⟩) ?_ ?_
  rotate_left
  · intro w'
    go_simp
    with_reducible rfl
  rotate_left
  · simp only [Act.put, List.setIfInBounds_toArray, List.set_cons_zero, List.set_cons_succ, i64_w, i32_w]
    rfl
  -- 0: t175 := load 115 t8 : 115 
  refine take_ (i := 0) (N := some 175) (v := ?_) (a' := ?_) #[true, true, true, true, false, false, false] rfl rfl (take_ofW HT_.out HW_.out (by kernel_rfl)) (fun _ _ _ h => h) (Or.inl ⟨by rfl, ?_⟩) hHeld ?_ ?_
  rotate_left
  · rintro w' s0
    go_simp
    with_reducible rfl
  rotate_left
  · simp only [Act.put, List.setIfInBounds_toArray, List.set_cons_zero, List.set_cons_succ, i64_w, i32_w]
    rfl
  -- 4: t179 := call (Callee.value F94) [] : 182 
  refine one_ (i := 4) (N := some 179) #[true, true, true, true, true, false, false] rfl rfl (one_of HT_.out (by kernel_rfl)) (by decide) (fun K hK => ?_)
  refine goes_ Try.func94 (by kernel_rfl) rfl #[] (by rfl) rfl rfl (by (try simp only [List.map_toArray, List.map_cons, List.map_nil]); first | done | rfl) ?_
  refine (withNo_any _).mono ?_
  rintro e_ w5 ⟨rfl, rfl⟩
  refine ⟨_, rfl, ?_⟩
  refine hK.out _ _ hHeld (fun hHeld => ?_)
  clear hK K
  refine norm_ (a' := ?_) ?_ ?_
  rotate_left
  · show Act.put _ (some 179) _ = _
    simp only [Act.put, List.setIfInBounds_toArray, List.set_cons_zero, List.set_cons_succ, i64_w, i32_w]
    rfl
  -- 5: t180 := buildSlice 237 1 [(0, t179)] : 237 
  refine one_ (i := 5) (N := some 180) #[true, true, true, true, true, true, false] rfl rfl (one_of HT_.out (by kernel_rfl)) (by decide) (fun K hK => ?_)
  refine event_step (v := .slice (some ⟨W.heap.size, 0, none⟩) 1 1) (w1 := W.alloc (.cells #[.func (.func 127) #[] #[]] 182)) (by rfl) (by first | (go_simp; done) | (go_simp; rfl)) ?_
  have HC := Aside0.mk (C_lit (enc := Op3.val) (h1 := Op3.val_one) (xs := [Op3.no]) (heap_alloc_new W (.cells #[.func (.func 127) #[] #[]] 182)) rfl (by simp))
  have HOK := Aside0.mk (show ∀ k, k < [Op3.no].length → (rdOp [Op3.no] k).ok (W.alloc (.cells #[.func (.func 127) #[] #[]] 182)) from fun k hk => by
    obtain rfl : k = 0 := by simpa using hk
    exact trivial)
  have B1 := Aside0.mk (blk_alloc B1.out (.cells #[.func (.func 127) #[] #[]] 182))
  have B3 := Aside0.mk (blk_alloc B3.out (.cells #[.func (.func 127) #[] #[]] 182))
  have HG := Aside0.mk (HG.out.below (below_alloc (Below.refl _ _) (.cells #[.func (.func 127) #[] #[]] 182)))
  have HB := Aside0.mk (HB.out.alloc HBS.out (.cells #[.func (.func 127) #[] #[]] 182))
  refine hK.out _ _ (KS.out _ B1.out B3.out) (fun hHeld => ?_)
  clear hK K
  refine norm_ (a' := ?_) ?_ ?_
  rotate_left
  · show Act.put _ (some 180) _ = _
    simp only [Act.put, List.setIfInBounds_toArray, List.set_cons_zero, List.set_cons_succ, i64_w, i32_w]
    rfl
  -- 6: t181 := call (Callee.value F93) [t175, t177, t178, t180] : 0 
  refine last_ (i := 6) (N := some 181) #[true, true, true, true, true, true, true] rfl rfl (one_of HT_.out (by kernel_rfl)) (by decide) (fun K hK => ?_)
  refine goes_ Try.func93 (by kernel_rfl) rfl #[.agg #[.string fam], .iface 110 (.pointer (some ⟨g, 0, none⟩)), .int .i64 at_, .slice (some ⟨W.heap.size, 0, none⟩) 1 1] (by rfl) rfl rfl (by (try simp only [List.map_toArray, List.map_cons, List.map_nil]); first | done | rfl) ?_
  refine (etSet_any fam at_ _ 1 [Op3.no] g base xs w0 _ HC.out HOK.out (by simp) HG.out HB.out HL.out).mono ?_
  rintro e_ w9 ⟨rfl, h1, h2⟩
  refine ⟨_, rfl, ?_⟩
  refine hK.out _ _ ?_
  clear hK K
  refine done_ (done_of HT_.out (by kernel_rfl)) ?_
  go_wp2
  go_end0
  have HS : setTM fam at_ [Op3.no] = stepTM fam tag false at_ 2 hat := by simp [setTM, stepTM, appAll, Op3.app]
  exact ⟨rfl, by rw [← HS]; exact h1, h2⟩

set_option maxRecDepth 100000 in
set_option maxHeartbeats 4000000 in
theorem timerSet_f0p (fam tag : ByteArray) (op at_ hat : Int) (g base : Nat) (xs : List TM) (w0 w : World) (hG : GV w g base xs) (hB : Below base w0 w) (hl : xs.length ≤ 1000000000) :
    Calls Try.prog 54 #[.pointer (some ⟨g, 0, none⟩), .agg #[.bool true, .string fam, .int .i64 op, .int .i64 at_, .string tag, .bool false, .int .i64 0, .int .i64 hat], .int .i64 at_, .agg #[.string fam], .agg #[.string fam]] w fun e w' => e = .returned (.tuple #[]) ∧ GV w' g base (xs ++ [stepTM fam tag false at_ 0 hat]) ∧ Below base w0 w' := by
  have HBS := Aside0.mk (show base ≤ w.heap.size by obtain ⟨v, h1, _, h3⟩ := hG; have := blk_lt h1; omega)
  have HW := Aside0.mk (below_alloc (below_alloc (below_alloc (Below.refl w.heap.size w) (.cells #[.bool true, .string fam, .int .i64 op, .int .i64 at_, .string tag, .bool false, .int .i64 0, .int .i64 hat] 44)) (.cells #[.string fam] 115)) (.cells #[.string fam] 117))
  have B1 := Aside0.mk (blk_alloc (blk_alloc (heap_alloc_new w (.cells #[.bool true, .string fam, .int .i64 op, .int .i64 at_, .string tag, .bool false, .int .i64 0, .int .i64 hat] 44)) (.cells #[.string fam] 115)) (.cells #[.string fam] 117))
  have B2 := Aside0.mk (blk_alloc (heap_alloc_new (w.alloc (.cells #[.bool true, .string fam, .int .i64 op, .int .i64 at_, .string tag, .bool false, .int .i64 0, .int .i64 hat] 44)) (.cells #[.string fam] 115)) (.cells #[.string fam] 117))
  have B3 := Aside0.mk (heap_alloc_new ((w.alloc (.cells #[.bool true, .string fam, .int .i64 op, .int .i64 at_, .string tag, .bool false, .int .i64 0, .int .i64 hat] 44)).alloc (.cells #[.string fam] 115)) (.cells #[.string fam] 117))
  simp only [World.size_alloc] at B2 B3
  have HG := Aside0.mk (hG.below HW.out)
  have HB := Aside0.mk (below_then hB HBS.out HW.out)
  have HL := Aside0.mk hl
  clear hG hB hl
  have HBS := Aside0.mk (Nat.le_trans HBS.out HW.out.size)
  clear HW
  have c0 := (blk_cell B3.out 0).trans (rfl : _ = some (Value.string fam))
  go_enter Try.func54, Try.ntmps54
  go_wp2_with (go_at_call 90; refine (ptSet_any fam at_ none 0 [] g base xs w0 _ ⟨rfl, by decide, fun h => absurd h (by decide)⟩ (fun k hk => absurd hk (by simp)) (by decide) HG.out HB.out HL.out).mono ?_; rintro e_ w9 ⟨rfl, h1, h2⟩)
  go_end0
  have HS : setTM fam at_ [] = stepTM fam tag false at_ 0 hat := by simp [setTM, stepTM, appAll]
  exact ⟨rfl, by rw [← HS]; exact h1, h2⟩

set_option maxRecDepth 100000 in
set_option maxHeartbeats 4000000 in
theorem timerSet_f0e (fam tag : ByteArray) (op at_ hat : Int) (g base : Nat) (xs : List TM) (w0 w : World) (hG : GV w g base xs) (hB : Below base w0 w) (hl : xs.length ≤ 1000000000) :
    Calls Try.prog 54 #[.pointer (some ⟨g, 0, none⟩), .agg #[.bool false, .string fam, .int .i64 op, .int .i64 at_, .string tag, .bool false, .int .i64 0, .int .i64 hat], .int .i64 at_, .agg #[.string fam], .agg #[.string fam]] w fun e w' => e = .returned (.tuple #[]) ∧ GV w' g base (xs ++ [stepTM fam tag false at_ 0 hat]) ∧ Below base w0 w' := by
  have HBS := Aside0.mk (show base ≤ w.heap.size by obtain ⟨v, h1, _, h3⟩ := hG; have := blk_lt h1; omega)
  have HW := Aside0.mk (below_alloc (below_alloc (below_alloc (Below.refl w.heap.size w) (.cells #[.bool false, .string fam, .int .i64 op, .int .i64 at_, .string tag, .bool false, .int .i64 0, .int .i64 hat] 44)) (.cells #[.string fam] 115)) (.cells #[.string fam] 117))
  have B1 := Aside0.mk (blk_alloc (blk_alloc (heap_alloc_new w (.cells #[.bool false, .string fam, .int .i64 op, .int .i64 at_, .string tag, .bool false, .int .i64 0, .int .i64 hat] 44)) (.cells #[.string fam] 115)) (.cells #[.string fam] 117))
  have B2 := Aside0.mk (blk_alloc (heap_alloc_new (w.alloc (.cells #[.bool false, .string fam, .int .i64 op, .int .i64 at_, .string tag, .bool false, .int .i64 0, .int .i64 hat] 44)) (.cells #[.string fam] 115)) (.cells #[.string fam] 117))
  have B3 := Aside0.mk (heap_alloc_new ((w.alloc (.cells #[.bool false, .string fam, .int .i64 op, .int .i64 at_, .string tag, .bool false, .int .i64 0, .int .i64 hat] 44)).alloc (.cells #[.string fam] 115)) (.cells #[.string fam] 117))
  simp only [World.size_alloc] at B2 B3
  have HG := Aside0.mk (hG.below HW.out)
  have HB := Aside0.mk (below_then hB HBS.out HW.out)
  have HL := Aside0.mk hl
  clear hG hB hl
  have HBS := Aside0.mk (Nat.le_trans HBS.out HW.out.size)
  clear HW
  have c0 := (blk_cell B2.out 0).trans (rfl : _ = some (Value.string fam))
  go_enter Try.func54, Try.ntmps54
  go_wp2_with (go_at_call 93; refine (etSet_any fam at_ none 0 [] g base xs w0 _ ⟨rfl, by decide, fun h => absurd h (by decide)⟩ (fun k hk => absurd hk (by simp)) (by decide) HG.out HB.out HL.out).mono ?_; rintro e_ w9 ⟨rfl, h1, h2⟩)
  go_end0
  have HS : setTM fam at_ [] = stepTM fam tag false at_ 0 hat := by simp [setTM, stepTM, appAll]
  exact ⟨rfl, by rw [← HS]; exact h1, h2⟩
end Go.Proofs.Ytoigekmdicepnaa
