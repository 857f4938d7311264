/- Contracts: the text of a window; the law of a window's last time. -/
import Derived.Test.YtdifeleddhefnaaDoorTs
import Derived.Test.YtdifeleddhefnaaDoorMx
set_option linter.unusedVariables false
set_option linter.unusedSimpArgs false
namespace Go.Proofs.YtdifeleddhefnaaDoor
open Go.RowKit Go.Proofs.YtdifeleddhefnaaDoorW.PrintWords Go.Proofs.YtdifeleddhefnaaDoorW.PrintLast Go.Proofs.YtdifeleddhefnaaDoorW.PrintMore
/-- The text of an interval. -/
def wt (a b : ByteArray) : ByteArray := (((⟨#[91]⟩ : ByteArray) ++ a) ++ (⟨#[58]⟩ : ByteArray)) ++ b ++ (⟨#[41]⟩ : ByteArray)
def iStr_any.T1 : Bool × List (List Nat × List Nat) := (true, [([], []), ([0], [0]), ([1], [1]), ([2], [2]), ([3], [3]), ([], []), ([5], [5]), ([6, 2], [6]), ([4, 7], [4, 7]), ([8], [8]), ([9, 7, 0, 1, 2, 3, 4, 5, 6, 7, 8, 9], [9])])
def iStr_any.B1 : List Nat := [0, 1, 3, 7, 15, 0, 32, 103, 255, 511, 1023]
theorem iStr_any.tab1 : rtab .any (opsOf Tryd.f20 1) = iStr_any.T1 := by kernel_rfl
theorem iStr_any.bits1 : waitsOk iStr_any.T1.2 iStr_any.B1 = true := by kernel_rfl
set_option maxRecDepth 100000 in
set_option maxHeartbeats 1000000 in
theorem iStr_any (s e : Int) (h0 : -9223372036854775 ≤ s) (h1 : s ≤ 9223372036854775) (h2 : -9223372036854775 ≤ e) (h3 : e ≤ 9223372036854775) (w : World) (htab : Tab w) : Calls Tryd.prog 20 #[.agg #[.int .i64 s, .int .i64 e]] w fun e' w' => e' = .returned (.string (wt (tt s) (tt e))) ∧ Below w.heap.size w w' := by
  have HT := Aside0.mk htab
  clear htab
  have l1 := tt_len s h0 h1
  have l2 := tt_len e h2 h3
  have HS := Aside0.mk (show ∀ w', Tab w' → Calls Tryd.prog 14 #[.int .i64 s] w' fun e w'' => e = .returned (.string (tt s)) ∧ Below w'.heap.size w' w'' from fun w' ht => timeStr_any s h0 h1 w' ht)
  have HE := Aside0.mk (show ∀ w', Tab w' → Calls Tryd.prog 14 #[.int .i64 e] w' fun e' w'' => e' = .returned (.string (tt e)) ∧ Below w'.heap.size w' w'' from fun w' ht => timeStr_any e h2 h3 w' ht)
  generalize tt s = a at HS l1 ⊢
  generalize tt e = b at HE l2 ⊢
  have c1 : (9223372036854775807 < 1 + a.size) = False := eq_false (by omega)
  have c2 : (9223372036854775807 < 1 + a.size + 1) = False := eq_false (by omega)
  have c3 : (9223372036854775807 < 1 + a.size + 1 + b.size) = False := eq_false (by omega)
  have c4 : (9223372036854775807 < 1 + a.size + 1 + b.size + 1) = False := eq_false (by omega)
  have G0 := heap_alloc_new w (.cells #[.int .i64 s, .int .i64 e] 47)
  have HB := Aside0.mk (below_drew (below_alloc (Below.refl w.heap.size w) (.cells #[.int .i64 s, .int .i64 e] 47)))
  have G := Aside0.mk (blk_drew G0)
  have K0 : (w.alloc (.cells #[.int .i64 s, .int .i64 e] 47)).drew.cell? ⟨w.heap.size, 0, none⟩ = some (.int .i64 s) ∧ (w.alloc (.cells #[.int .i64 s, .int .i64 e] 47)).drew.cell? ⟨w.heap.size, 1, none⟩ = some (.int .i64 e) := ⟨(blk_cell G.out 0).trans rfl, (blk_cell G.out 1).trans rfl⟩
  clear G0 l1 l2 h0 h1 h2 h3
  go_enter Tryd.func20, Tryd.ntmps20
  go_wp2_with fail
  refine start_ (n := 11) (S := fun w' => w'.cell? ⟨w.heap.size, 0, none⟩ = some (.int .i64 s) ∧ w'.cell? ⟨w.heap.size, 1, none⟩ = some (.int .i64 e)) (ds := []) #[false, false, false, false, false, false, false, false, false, false, false] (by kernel_rfl) rfl rfl K0 (fun hHeld => ?_)
  refine with_tabW iStr_any.tab1 iStr_any.bits1 (fun HT_ HW_ => ?_)
  generalize (w.alloc (.cells #[.int .i64 s, .int .i64 e] 47)).drew = W at *
  -- 0: t3 := fieldAddr 47 t1 0 : 0 
  refine pure_ (i := 0) (N := some 3) (v := ?_) (a' := ?_) #[true, false, false, false, false, false, false, false, false, false, false] rfl rfl (any_of HT_.out (by kernel_rfl)) (fun _ _ _ h => h) (Or.inl ⟨by rfl, ?_⟩) ?_ ?_
  rotate_left
  · intro w'
    go_simp
    with_reducible rfl
  rotate_left
  · simp only [Act.put, List.setIfInBounds_toArray, List.set_cons_zero, List.set_cons_succ, i64_w, i32_w]
    rfl
  -- 5: t8 := fieldAddr 47 t1 1 : 0 
  refine pure_ (i := 5) (N := some 8) (v := ?_) (a' := ?_) #[true, false, false, false, false, true, false, false, false, false, false] rfl rfl (any_of HT_.out (by kernel_rfl)) (fun _ _ _ h => h) (Or.inl ⟨by rfl, ?_⟩) ?_ ?_
  rotate_left
  · intro w'
    go_simp
    with_reducible rfl
  rotate_left
  · simp only [Act.put, List.setIfInBounds_toArray, List.set_cons_zero, List.set_cons_succ, i64_w, i32_w]
    rfl
  -- 1: t4 := load 33 t3 : 33 
  refine take_ (i := 1) (N := some 4) (v := ?_) (a' := ?_) #[true, true, false, false, false, true, false, false, false, false, false] rfl rfl (take_ofW HT_.out HW_.out (by kernel_rfl)) (fun _ _ _ h => h) (Or.inl ⟨by rfl, ?_⟩) hHeld ?_ ?_
  rotate_left
  · rintro w' ⟨s0, s1⟩
    go_simp
    with_reducible rfl
  rotate_left
  · simp only [Act.put, List.setIfInBounds_toArray, List.set_cons_zero, List.set_cons_succ, i64_w, i32_w]
    rfl
  -- 6: t9 := load 33 t8 : 33 
  refine take_ (i := 6) (N := some 9) (v := ?_) (a' := ?_) #[true, true, false, false, false, true, true, false, false, false, false] rfl rfl (take_ofW HT_.out HW_.out (by kernel_rfl)) (fun _ _ _ h => h) (Or.inl ⟨by rfl, ?_⟩) hHeld ?_ ?_
  rotate_left
  · rintro w' ⟨s0, s1⟩
    go_simp
    with_reducible rfl
  rotate_left
  · simp only [Act.put, List.setIfInBounds_toArray, List.set_cons_zero, List.set_cons_succ, i64_w, i32_w]
    rfl
  -- 2: t5 := call (Callee.value F14) [t4] : 9 
  refine one_ (i := 2) (N := some 5) #[true, true, true, false, false, true, true, false, false, false, false] rfl rfl (one_of HT_.out (by kernel_rfl)) (by decide) (fun K hK => ?_)
  refine goes_ Tryd.func14 (by kernel_rfl) rfl #[.int .i64 s] (by rfl) rfl rfl (by (try simp only [List.map_toArray, List.map_cons, List.map_nil]); first | done | rfl) ?_
  refine (HS.out _ (tab_below HT.out HB.out)).mono ?_
  rintro e_ V ⟨rfl, hb⟩
  refine ⟨_, rfl, ?_⟩
  have HB2 := Aside0.mk (below_then HB.out HB.out.size hb)
  refine hK.out _ _ ⟨pw_cell_below hb hHeld.1, pw_cell_below hb hHeld.2⟩ (fun hHeld => ?_)
  clear hb hK K
  refine norm_ (a' := ?_) ?_ ?_
  rotate_left
  · show Act.put _ (some 5) _ = _
    simp only [Act.put, List.setIfInBounds_toArray, List.set_cons_zero, List.set_cons_succ, i64_w, i32_w]
    rfl
  -- 3: t6 := binOp add 9 (string {data=[91]}) t5 9 : 9 
  refine pure_ (i := 3) (N := some 6) (v := ?_) (a' := ?_) #[true, true, true, true, false, true, true, false, false, false, false] rfl rfl (any_of HT_.out (by kernel_rfl)) (fun _ _ _ h => h) (Or.inl ⟨by rfl, ?_⟩) ?_ ?_
  rotate_left
  · intro w'
    go_simp
    with_reducible rfl
  rotate_left
  · simp only [Act.put, List.setIfInBounds_toArray, List.set_cons_zero, List.set_cons_succ, i64_w, i32_w]
    rfl
  -- 4: t7 := binOp add 9 t6 (string {data=[58]}) 9 : 9 
  refine pure_ (i := 4) (N := some 7) (v := ?_) (a' := ?_) #[true, true, true, true, true, true, true, false, false, false, false] rfl rfl (any_of HT_.out (by kernel_rfl)) (fun _ _ _ h => h) (Or.inl ⟨by rfl, ?_⟩) ?_ ?_
  rotate_left
  · intro w'
    go_simp
    with_reducible rfl
  rotate_left
  · simp only [Act.put, List.setIfInBounds_toArray, List.set_cons_zero, List.set_cons_succ, i64_w, i32_w]
    rfl
  -- 7: t10 := call (Callee.value F14) [t9] : 9 
  refine one_ (i := 7) (N := some 10) #[true, true, true, true, true, true, true, true, false, false, false] rfl rfl (one_of HT_.out (by kernel_rfl)) (by decide) (fun K hK => ?_)
  refine goes_ Tryd.func14 (by kernel_rfl) rfl #[.int .i64 e] (by rfl) rfl rfl (by (try simp only [List.map_toArray, List.map_cons, List.map_nil]); first | done | rfl) ?_
  refine (HE.out _ (tab_below HT.out HB2.out)).mono ?_
  rintro e_ V ⟨rfl, hb⟩
  refine ⟨_, rfl, ?_⟩
  have HB3 := Aside0.mk (below_then HB2.out HB2.out.size hb)
  refine hK.out _ _ ⟨pw_cell_below hb hHeld.1, pw_cell_below hb hHeld.2⟩ (fun hHeld => ?_)
  clear hb hK K
  refine norm_ (a' := ?_) ?_ ?_
  rotate_left
  · show Act.put _ (some 10) _ = _
    simp only [Act.put, List.setIfInBounds_toArray, List.set_cons_zero, List.set_cons_succ, i64_w, i32_w]
    rfl
  -- 8: t11 := binOp add 9 t7 t10 9 : 9 
  refine pure_ (i := 8) (N := some 11) (v := ?_) (a' := ?_) #[true, true, true, true, true, true, true, true, true, false, false] rfl rfl (any_of HT_.out (by kernel_rfl)) (fun _ _ _ h => h) (Or.inl ⟨by rfl, ?_⟩) ?_ ?_
  rotate_left
  · intro w'
    go_simp
    with_reducible rfl
  rotate_left
  · simp only [Act.put, List.setIfInBounds_toArray, List.set_cons_zero, List.set_cons_succ, i64_w, i32_w]
    rfl
  -- 9: t12 := binOp add 9 t11 (string {data=[41]}) 9 : 9 
  refine pure_ (i := 9) (N := some 12) (v := ?_) (a' := ?_) #[true, true, true, true, true, true, true, true, true, true, false] rfl rfl (any_of HT_.out (by kernel_rfl)) (fun _ _ _ h => h) (Or.inl ⟨by rfl, ?_⟩) ?_ ?_
  rotate_left
  · intro w'
    go_simp
    with_reducible rfl
  rotate_left
  · simp only [Act.put, List.setIfInBounds_toArray, List.set_cons_zero, List.set_cons_succ, i64_w, i32_w]
    rfl
  -- 10: t2 := assign t12 : 9 
  refine pure_ (i := 10) (N := some 2) (v := ?_) (a' := ?_) #[true, true, true, true, true, true, true, true, true, true, true] rfl rfl (any_of HT_.out (by kernel_rfl)) (fun _ _ _ h => h) (Or.inl ⟨by rfl, ?_⟩) ?_ ?_
  rotate_left
  · intro w'
    go_simp
    with_reducible rfl
  rotate_left
  · simp only [Act.put, List.setIfInBounds_toArray, List.set_cons_zero, List.set_cons_succ, i64_w, i32_w]
    rfl
  refine done_ (done_of HT_.out (by kernel_rfl)) ?_
  go_wp2
  go_ret
  exact ⟨rfl, HB3.out⟩
def sText_any.T3 : Bool × List (List Nat × List Nat) := (true, [([], []), ([0], [0]), ([1], [1]), ([2], [2]), ([3], [3]), ([], []), ([5], [5]), ([6, 2], [6]), ([4, 7], [4, 7]), ([8], [8]), ([9, 7, 0, 1, 2, 3, 4, 5, 6, 7, 8, 9], [9])])
def sText_any.B3 : List Nat := [0, 1, 3, 7, 15, 0, 32, 103, 255, 511, 1023]
theorem sText_any.tab3 : rtab .any (opsOf Tryd.f13 3) = sText_any.T3 := by kernel_rfl
theorem sText_any.bits3 : waitsOk sText_any.T3.2 sText_any.B3 = true := by kernel_rfl
set_option maxRecDepth 100000 in
set_option maxHeartbeats 1000000 in
theorem sText_any (s e : Int) (h0 : -9223372036854775 ≤ s) (h1 : s ≤ 9223372036854775) (h2 : -9223372036854775 ≤ e) (h3 : e ≤ 9223372036854775) (w : World) : Calls Tryd.prog 13 #[.agg #[.bool false, .int .i64 s, .int .i64 e]] w fun e' w' => e' = .returned (.string (wt (tt s) (tt e))) ∧ Below w.heap.size w w' := by
  have l1 := tt_len s h0 h1
  have l2 := tt_len e h2 h3
  have HS := Aside0.mk (show ∀ w', True → Calls Tryd.prog 7 #[.int .i64 s] w' fun e w'' => e = .returned (.string (tt s)) ∧ Below w'.heap.size w' w'' from fun w' ht => timeText_any s h0 h1 w')
  have HE := Aside0.mk (show ∀ w', True → Calls Tryd.prog 7 #[.int .i64 e] w' fun e' w'' => e' = .returned (.string (tt e)) ∧ Below w'.heap.size w' w'' from fun w' ht => timeText_any e h2 h3 w')
  generalize tt s = a at HS l1 ⊢
  generalize tt e = b at HE l2 ⊢
  have c1 : (9223372036854775807 < 1 + a.size) = False := eq_false (by omega)
  have c2 : (9223372036854775807 < 1 + a.size + 1) = False := eq_false (by omega)
  have c3 : (9223372036854775807 < 1 + a.size + 1 + b.size) = False := eq_false (by omega)
  have c4 : (9223372036854775807 < 1 + a.size + 1 + b.size + 1) = False := eq_false (by omega)
  have G0 := heap_alloc_new w (.cells #[.bool false, .int .i64 s, .int .i64 e] 26)
  have HB := Aside0.mk (below_drew (below_alloc (Below.refl w.heap.size w) (.cells #[.bool false, .int .i64 s, .int .i64 e] 26)))
  have G := Aside0.mk (blk_drew G0)
  have K0 : (w.alloc (.cells #[.bool false, .int .i64 s, .int .i64 e] 26)).drew.cell? ⟨w.heap.size, 0, none⟩ = some (.bool false) ∧ (w.alloc (.cells #[.bool false, .int .i64 s, .int .i64 e] 26)).drew.cell? ⟨w.heap.size, 1, none⟩ = some (.int .i64 s) ∧ (w.alloc (.cells #[.bool false, .int .i64 s, .int .i64 e] 26)).drew.cell? ⟨w.heap.size, 2, none⟩ = some (.int .i64 e) := ⟨(blk_cell G.out 0).trans rfl, (blk_cell G.out 1).trans rfl, (blk_cell G.out 2).trans rfl⟩
  clear G0 l1 l2 h0 h1 h2 h3
  go_enter Tryd.func13, Tryd.ntmps13
  go_wp2_with fail
  refine start_ (n := 11) (S := fun w' => w'.cell? ⟨w.heap.size, 0, none⟩ = some (.bool false) ∧ w'.cell? ⟨w.heap.size, 1, none⟩ = some (.int .i64 s) ∧ w'.cell? ⟨w.heap.size, 2, none⟩ = some (.int .i64 e)) (ds := []) #[false, false, false, false, false, false, false, false, false, false, false] (by kernel_rfl) rfl rfl K0 (fun hHeld => ?_)
  refine with_tabW sText_any.tab3 sText_any.bits3 (fun HT_ HW_ => ?_)
  generalize (w.alloc (.cells #[.bool false, .int .i64 s, .int .i64 e] 26)).drew = W at *
  -- 0: t5 := fieldAddr 26 t1 1 : 0 
  refine pure_ (i := 0) (N := some 5) (v := ?_) (a' := ?_) #[true, false, false, false, false, false, false, false, false, false, false] rfl rfl (any_of HT_.out (by kernel_rfl)) (fun _ _ _ h => h) (Or.inl ⟨by rfl, ?_⟩) ?_ ?_
  rotate_left
  · intro w'
    go_simp
    with_reducible rfl
  rotate_left
  · simp only [Act.put, List.setIfInBounds_toArray, List.set_cons_zero, List.set_cons_succ, i64_w, i32_w]
    rfl
  -- 5: t10 := fieldAddr 26 t1 2 : 0 
  refine pure_ (i := 5) (N := some 10) (v := ?_) (a' := ?_) #[true, false, false, false, false, true, false, false, false, false, false] rfl rfl (any_of HT_.out (by kernel_rfl)) (fun _ _ _ h => h) (Or.inl ⟨by rfl, ?_⟩) ?_ ?_
  rotate_left
  · intro w'
    go_simp
    with_reducible rfl
  rotate_left
  · simp only [Act.put, List.setIfInBounds_toArray, List.set_cons_zero, List.set_cons_succ, i64_w, i32_w]
    rfl
  -- 1: t6 := load 2 t5 : 2 
  refine take_ (i := 1) (N := some 6) (v := ?_) (a' := ?_) #[true, true, false, false, false, true, false, false, false, false, false] rfl rfl (take_ofW HT_.out HW_.out (by kernel_rfl)) (fun _ _ _ h => h) (Or.inl ⟨by rfl, ?_⟩) hHeld ?_ ?_
  rotate_left
  · rintro w' ⟨s0, s1, s2⟩
    go_simp
    with_reducible rfl
  rotate_left
  · simp only [Act.put, List.setIfInBounds_toArray, List.set_cons_zero, List.set_cons_succ, i64_w, i32_w]
    rfl
  -- 6: t11 := load 2 t10 : 2 
  refine take_ (i := 6) (N := some 11) (v := ?_) (a' := ?_) #[true, true, false, false, false, true, true, false, false, false, false] rfl rfl (take_ofW HT_.out HW_.out (by kernel_rfl)) (fun _ _ _ h => h) (Or.inl ⟨by rfl, ?_⟩) hHeld ?_ ?_
  rotate_left
  · rintro w' ⟨s0, s1, s2⟩
    go_simp
    with_reducible rfl
  rotate_left
  · simp only [Act.put, List.setIfInBounds_toArray, List.set_cons_zero, List.set_cons_succ, i64_w, i32_w]
    rfl
  -- 2: t7 := call (Callee.value F7) [t6] : 9 
  refine one_ (i := 2) (N := some 7) #[true, true, true, false, false, true, true, false, false, false, false] rfl rfl (one_of HT_.out (by kernel_rfl)) (by decide) (fun K hK => ?_)
  refine goes_ Tryd.func7 (by kernel_rfl) rfl #[.int .i64 s] (by rfl) rfl rfl (by (try simp only [List.map_toArray, List.map_cons, List.map_nil]); first | done | rfl) ?_
  refine (HS.out _ trivial).mono ?_
  rintro e_ V ⟨rfl, hb⟩
  refine ⟨_, rfl, ?_⟩
  have HB2 := Aside0.mk (below_then HB.out HB.out.size hb)
  refine hK.out _ _ ⟨pw_cell_below hb hHeld.1, pw_cell_below hb hHeld.2.1, pw_cell_below hb hHeld.2.2⟩ (fun hHeld => ?_)
  clear hb hK K
  refine norm_ (a' := ?_) ?_ ?_
  rotate_left
  · show Act.put _ (some 7) _ = _
    simp only [Act.put, List.setIfInBounds_toArray, List.set_cons_zero, List.set_cons_succ, i64_w, i32_w]
    rfl
  -- 3: t8 := binOp add 9 (string {data=[91]}) t7 9 : 9 
  refine pure_ (i := 3) (N := some 8) (v := ?_) (a' := ?_) #[true, true, true, true, false, true, true, false, false, false, false] rfl rfl (any_of HT_.out (by kernel_rfl)) (fun _ _ _ h => h) (Or.inl ⟨by rfl, ?_⟩) ?_ ?_
  rotate_left
  · intro w'
    go_simp
    with_reducible rfl
  rotate_left
  · simp only [Act.put, List.setIfInBounds_toArray, List.set_cons_zero, List.set_cons_succ, i64_w, i32_w]
    rfl
  -- 4: t9 := binOp add 9 t8 (string {data=[58]}) 9 : 9 
  refine pure_ (i := 4) (N := some 9) (v := ?_) (a' := ?_) #[true, true, true, true, true, true, true, false, false, false, false] rfl rfl (any_of HT_.out (by kernel_rfl)) (fun _ _ _ h => h) (Or.inl ⟨by rfl, ?_⟩) ?_ ?_
  rotate_left
  · intro w'
    go_simp
    with_reducible rfl
  rotate_left
  · simp only [Act.put, List.setIfInBounds_toArray, List.set_cons_zero, List.set_cons_succ, i64_w, i32_w]
    rfl
  -- 7: t12 := call (Callee.value F7) [t11] : 9 
  refine one_ (i := 7) (N := some 12) #[true, true, true, true, true, true, true, true, false, false, false] rfl rfl (one_of HT_.out (by kernel_rfl)) (by decide) (fun K hK => ?_)
  refine goes_ Tryd.func7 (by kernel_rfl) rfl #[.int .i64 e] (by rfl) rfl rfl (by (try simp only [List.map_toArray, List.map_cons, List.map_nil]); first | done | rfl) ?_
  refine (HE.out _ trivial).mono ?_
  rintro e_ V ⟨rfl, hb⟩
  refine ⟨_, rfl, ?_⟩
  have HB3 := Aside0.mk (below_then HB2.out HB2.out.size hb)
  refine hK.out _ _ ⟨pw_cell_below hb hHeld.1, pw_cell_below hb hHeld.2.1, pw_cell_below hb hHeld.2.2⟩ (fun hHeld => ?_)
  clear hb hK K
  refine norm_ (a' := ?_) ?_ ?_
  rotate_left
  · show Act.put _ (some 12) _ = _
    simp only [Act.put, List.setIfInBounds_toArray, List.set_cons_zero, List.set_cons_succ, i64_w, i32_w]
    rfl
  -- 8: t13 := binOp add 9 t9 t12 9 : 9 
  refine pure_ (i := 8) (N := some 13) (v := ?_) (a' := ?_) #[true, true, true, true, true, true, true, true, true, false, false] rfl rfl (any_of HT_.out (by kernel_rfl)) (fun _ _ _ h => h) (Or.inl ⟨by rfl, ?_⟩) ?_ ?_
  rotate_left
  · intro w'
    go_simp
    with_reducible rfl
  rotate_left
  · simp only [Act.put, List.setIfInBounds_toArray, List.set_cons_zero, List.set_cons_succ, i64_w, i32_w]
    rfl
  -- 9: t14 := binOp add 9 t13 (string {data=[41]}) 9 : 9 
  refine pure_ (i := 9) (N := some 14) (v := ?_) (a' := ?_) #[true, true, true, true, true, true, true, true, true, true, false] rfl rfl (any_of HT_.out (by kernel_rfl)) (fun _ _ _ h => h) (Or.inl ⟨by rfl, ?_⟩) ?_ ?_
  rotate_left
  · intro w'
    go_simp
    with_reducible rfl
  rotate_left
  · simp only [Act.put, List.setIfInBounds_toArray, List.set_cons_zero, List.set_cons_succ, i64_w, i32_w]
    rfl
  -- 10: t2 := assign t14 : 9 
  refine pure_ (i := 10) (N := some 2) (v := ?_) (a' := ?_) #[true, true, true, true, true, true, true, true, true, true, true] rfl rfl (any_of HT_.out (by kernel_rfl)) (fun _ _ _ h => h) (Or.inl ⟨by rfl, ?_⟩) ?_ ?_
  rotate_left
  · intro w'
    go_simp
    with_reducible rfl
  rotate_left
  · simp only [Act.put, List.setIfInBounds_toArray, List.set_cons_zero, List.set_cons_succ, i64_w, i32_w]
    rfl
  refine done_ (done_of HT_.out (by kernel_rfl)) ?_
  go_wp2
  go_ret
  exact ⟨rfl, HB3.out⟩
end Go.Proofs.YtdifeleddhefnaaDoor
