/- Contract: the calls of an ordered list, and their answers. -/
import Derived.Test.YtoigekmdicepnaaUg
import Derived.Test.YtoigekmdicepnaaUh
set_option linter.unusedVariables false
set_option linter.unusedSimpArgs false
namespace Go.Proofs.Ytoigekmdicepnaa
open Go.RowKit Go.Proofs.YtoigekmdicepnaaW.PrintWords Go.Proofs.YtoigekmdicepnaaW.PrintLast Go.Proofs.YtoigekmdicepnaaW.PrintMore
open PFnMapState (S26 k26 S36 k36 k26_open k36_mkM k36_open z26 z36)
open Go.Proofs.Ytoigekmdicepnaa.Ord (E2 ins isort Tx inR tx1 replay Asc Down addF ref1)
theorem info58 : (Try.prog.info? 58).map (fun i => (i.zero, i.size, i.bytes)) = some (some (.agg #[.int .i64 0, .int .i64 0]), 2, 16) := by kernel_rfl
theorem enA_snoc (l : List E2) (x : E2) : enA (l ++ [x]) = enA l ++ [Av.en x.1 x.2] := by unfold enA; rw [List.map_append]; rfl
theorem enA_len (l : List E2) : (enA l).length = l.length := List.length_map _
def listRun_any.T5 : Bool × List (List Nat × List Nat) := (true, [([], []), ([], []), ([1], [1]), ([2], [2]), ([3], [3]), ([], []), ([5], [5]), ([], []), ([7], [7]), ([8], [8]), ([6, 9], [6, 9]), ([10], [10]), ([11], [11]), ([4, 12], [4, 12]), ([0, 0, 1, 2, 3, 4, 5, 6, 7, 8, 9, 10, 11, 12, 13], [0]), ([14, 0, 1, 2, 3, 4, 5, 6, 7, 8, 9, 10, 11, 12, 13], [14]), ([15, 13, 13, 0, 1, 2, 3, 4, 5, 6, 7, 8, 9, 10, 11, 12, 13], [13, 15])])
def listRun_any.B5 : List Nat := [0, 0, 2, 6, 14, 0, 32, 0, 128, 384, 992, 2016, 4064, 8190, 16383, 32767, 65535]
theorem listRun_any.tab5 : rtab .any (opsOf Try.f26 5) = listRun_any.T5 := by kernel_rfl
theorem listRun_any.bits5 : waitsOk listRun_any.T5.2 listRun_any.B5 = true := by kernel_rfl
def listRun_any.T29 : Bool × List (List Nat × List Nat) := (true, [([], []), ([0], [0]), ([], []), ([2], [2]), ([3], [3]), ([1, 4], [1, 4]), ([], []), ([6], [6]), ([], []), ([8], [8]), ([9], [9]), ([7, 10, 5], [7, 10]), ([0, 1, 2, 3, 4, 5, 6, 7], []), ([12, 5, 11, 0, 1, 2, 3, 4, 5, 6, 7], [5, 12]), ([0, 1, 2, 3, 4, 5, 6, 7, 8, 9, 10, 11, 12, 13], []), ([14, 11, 13, 0, 1, 2, 3, 4, 5, 6, 7, 8, 9, 10, 11, 12, 13], [11, 14])])
def listRun_any.B29 : List Nat := [0, 1, 0, 4, 12, 31, 0, 64, 0, 256, 768, 2047, 255, 8191, 16383, 32767]
theorem listRun_any.tab29 : rtab .any (opsOf Try.f26 29) = listRun_any.T29 := by kernel_rfl
theorem listRun_any.bits29 : waitsOk listRun_any.T29.2 listRun_any.B29 = true := by kernel_rfl
set_option maxRecDepth 100000 in
set_option maxHeartbeats 8000000 in
theorem listRun_any (A0 : Option Addr) (c0 : Nat) (es : List E2) (A1 : Option Addr) (c1 : Nat) (l : List S26) (w : World) (hV : kOl.C w A0 es.length es) (hC : Kd.C k26 w A1 l.length l) (hop : ∀ k, k < l.length → okStep [0, 1, 2, 5, 6] (rdP l k)) (hl : l.length ≤ 1000) (hvl : es.length ≤ 1000) (hkb : KB (isort es)) :
    Calls Try.prog 26 #[.slice A0 es.length c0, .slice A1 l.length c1] w fun e w' => ∃ v, e = .returned v ∧ Kd.R k36 36 w' w.heap.size (fun _ => True) v (ansL l (isort es)) ∧ Below w.heap.size w w' := by
  have HV := Aside0.mk hV
  have HC := Aside0.mk hC
  have HOP := Aside0.mk hop
  have HL := Aside0.mk hl
  have HVL := Aside0.mk hvl
  have HKB := Aside0.mk hkb
  have HG0 := Aside0.mk (heap_alloc_new w (.cells #[.nilIface, .slice none 0 0, .slice none 0 0, .map none, .slice none 0 0, .slice none 0 0] 99))
  have HB0 := Aside0.mk (below_alloc (Below.refl w.heap.size w) (.cells #[.nilIface, .slice none 0 0, .slice none 0 0, .map none, .slice none 0 0, .slice none 0 0] 99))
  clear hV hC hop hl hvl hkb
  go_enter Try.func26, Try.ntmps26
  go_wp2
  go_loopg [21] es.length (fun kq v21 w' => ∃ (i : Nat) (lv : Value), i ≤ es.length ∧ Aside0 (kq = es.length - i) ∧ v21 = .int .i64 i ∧ Aside0 (w'.heap[w.heap.size]? = some (.cells #[.nilIface, .slice none 0 0, .slice none 0 0, .map none, lv, .slice none 0 0] 99 (0, 0))) ∧ Aside0 (Kd.R kAv 20 w' w.heap.size (fun _ => True) lv (enA (es.take i))) ∧ Aside0 (Below w.heap.size w w'))
  case atStart => exact ⟨0, _, Nat.zero_le _, ⟨by simp⟩, rfl, HG0, ⟨by rw [List.take_zero]; exact Kd.R_nil _ _ _ _ _⟩, HB0⟩
  case round =>
    clear HG0 HB0
    obtain ⟨i, lv, hi, hq, rfl, HG, HLR, HBW⟩ := hrel
    have q1 : (es.length : Int) ≤ 1000 := by have := HVL.out; omega
    by_cases hlt : i < es.length
    · obtain ⟨ad, ea, x0, x1⟩ := atO HV.out i hlt
      subst ea
      replace x0 := (HBW.out.cell (World.block_lt_of_cell? w _ x0)).trans x0
      replace x1 := (HBW.out.cell (World.block_lt_of_cell? w _ x1)).trans x1
      have HTS := Aside0.mk (show enA (es.take (i + 1)) = enA (es.take i) ++ [Av.en (rdE es i).1 (rdE es i).2] by rw [takeE_succ es i hlt, enA_snoc])
      generalize rdE es i = x at x0 x1 HTS
      obtain ⟨ek, ev⟩ := x
      simp only at x0 x1
      have HLN := Aside0.mk (show ((enA (es.take i)).length + 1) * 16 ≤ 140737488355328 by have := HVL.out; rw [enA_len, List.length_take]; omega)
      have HLE := Aside0.mk (show (enA (es.take i)).length = i by rw [enA_len, List.length_take]; omega)
      have HG := Aside0.mk (blk_drew (blk_alloc HG.out (.cells #[.int .i64 ek, .int .i64 ev] 58)))
      have HX := Aside0.mk (blk_drew (heap_alloc_new wr (.cells #[.int .i64 ek, .int .i64 ev] 58)))
      have HLR := Aside0.mk (Kd.R_drew (Kd.R_alloc HLR.out (.cells #[.int .i64 ek, .int .i64 ev] 58)))
      have HBW := Aside0.mk (below_drew (HBW.out.alloc HBW.out.size (.cells #[.int .i64 ek, .int .i64 ev] 58)))
      have HSP := Aside0.mk (fun (z : World) (h1 : z.heap[w.heap.size]? = some (.cells #[.nilIface, .slice none 0 0, .slice none 0 0, .map none, lv, .slice none 0 0] 99 (0, 0))) (h2 : z.heap[wr.heap.size]? = some (.cells #[.int .i64 ek, .int .i64 ev] 58 (0, 0))) => (⟨(blk_cell h1 4).trans rfl, (blk_cell h2 0).trans rfl, (blk_cell h2 1).trans rfl⟩ : z.cell? ⟨w.heap.size, 4, none⟩ = some lv ∧ z.cell? ⟨wr.heap.size, 0, none⟩ = some (.int .i64 ek) ∧ z.cell? ⟨wr.heap.size, 1, none⟩ = some (.int .i64 ev)))
      have K0 := HSP.out _ HG.out HX.out
      go_wp2_with fail
      refine start_ (n := 17) (S := fun w' => w'.cell? ⟨w.heap.size, 4, none⟩ = some lv ∧ w'.cell? ⟨wr.heap.size, 0, none⟩ = some (.int .i64 ek) ∧ w'.cell? ⟨wr.heap.size, 1, none⟩ = some (.int .i64 ev)) (ds := [13, 16]) #[false, false, false, false, false, false, false, false, false, false, false, false, false, false, false, false, false] (by kernel_rfl) rfl rfl K0 (fun hHeld => ?_)
      refine with_tabW listRun_any.tab5 listRun_any.bits5 (fun HT_ HW_ => ?_)
      generalize (wr.alloc (.cells #[.int .i64 ek, .int .i64 ev] 58)).drew = W at HG HX HLR HBW K0 hHeld ⊢
      -- 0: t25 := move t5 : 94 
      refine pure_ (i := 0) (N := some 25) (v := ?_) (a' := ?_) #[true, false, false, false, false, false, false, false, false, false, false, false, false, false, false, false, false] rfl rfl (any_of HT_.out (by kernel_rfl)) (fun _ _ _ h => h) (Or.inl ⟨by rfl, ?_⟩) ?_ ?_
      rotate_left
      · intro w'
        go_simp
        with_reducible rfl
      rotate_left
      · simp only [Act.put, List.setIfInBounds_toArray, List.set_cons_zero, List.set_cons_succ, i64_w, i32_w]
        rfl
      -- 1: t26 := move t5 : 94 
      refine pure_ (i := 1) (N := some 26) (v := ?_) (a' := ?_) #[true, true, false, false, false, false, false, false, false, false, false, false, false, false, false, false, false] rfl rfl (any_of HT_.out (by kernel_rfl)) (fun _ _ _ h => h) (Or.inl ⟨by rfl, ?_⟩) ?_ ?_
      rotate_left
      · intro w'
        go_simp
        with_reducible rfl
      rotate_left
      · simp only [Act.put, List.setIfInBounds_toArray, List.set_cons_zero, List.set_cons_succ, i64_w, i32_w]
        rfl
      -- 2: t27 := nilCheck t26 : 0 
      refine pure_ (i := 2) (N := some 27) (v := ?_) (a' := ?_) #[true, true, true, false, false, false, false, false, false, false, false, false, false, false, false, false, false] rfl rfl (any_of HT_.out (by kernel_rfl)) (fun _ _ _ h => h) (Or.inl ⟨by rfl, ?_⟩) ?_ ?_
      rotate_left
      · intro w'
        go_simp
        with_reducible rfl
      rotate_left
      · simp only [Act.put, List.setIfInBounds_toArray, List.set_cons_zero, List.set_cons_succ, i64_w, i32_w]
        rfl
      -- 3: t28 := fieldAddr 99 t27 4 : 0 
      refine pure_ (i := 3) (N := some 28) (v := ?_) (a' := ?_) #[true, true, true, true, false, false, false, false, false, false, false, false, false, false, false, false, false] rfl rfl (any_of HT_.out (by kernel_rfl)) (fun _ _ _ h => h) (Or.inl ⟨by rfl, ?_⟩) ?_ ?_
      rotate_left
      · intro w'
        go_simp
        with_reducible rfl
      rotate_left
      · simp only [Act.put, List.setIfInBounds_toArray, List.set_cons_zero, List.set_cons_succ, i64_w, i32_w]
        rfl
      -- 5: t30 := fieldAddr 58 t7 0 : 0 
      refine pure_ (i := 5) (N := some 30) (v := ?_) (a' := ?_) #[true, true, true, true, false, true, false, false, false, false, false, false, false, false, false, false, false] rfl rfl (any_of HT_.out (by kernel_rfl)) (fun _ _ _ h => h) (Or.inl ⟨by rfl, ?_⟩) ?_ ?_
      rotate_left
      · intro w'
        go_simp
        with_reducible rfl
      rotate_left
      · simp only [Act.put, List.setIfInBounds_toArray, List.set_cons_zero, List.set_cons_succ, i64_w, i32_w]
        rfl
      -- 7: t32 := fieldAddr 58 t7 1 : 0 
      refine pure_ (i := 7) (N := some 32) (v := ?_) (a' := ?_) #[true, true, true, true, false, true, false, true, false, false, false, false, false, false, false, false, false] rfl rfl (any_of HT_.out (by kernel_rfl)) (fun _ _ _ h => h) (Or.inl ⟨by rfl, ?_⟩) ?_ ?_
      rotate_left
      · intro w'
        go_simp
        with_reducible rfl
      rotate_left
      · simp only [Act.put, List.setIfInBounds_toArray, List.set_cons_zero, List.set_cons_succ, i64_w, i32_w]
        rfl
      -- 4: t29 := load 95 t28 : 95 
      refine take_ (i := 4) (N := some 29) (v := ?_) (a' := ?_) #[true, true, true, true, true, true, false, true, false, false, false, false, false, false, false, false, false] rfl rfl (take_ofW HT_.out HW_.out (by kernel_rfl)) (fun _ _ _ h => h) (Or.inl ⟨by rfl, ?_⟩) hHeld ?_ ?_
      rotate_left
      · rintro w' ⟨s0, s1, s2⟩
        go_simp
        with_reducible rfl
      rotate_left
      · simp only [Act.put, List.setIfInBounds_toArray, List.set_cons_zero, List.set_cons_succ, i64_w, i32_w]
        rfl
      -- 6: t31 := load 2 t30 : 2 
      refine take_ (i := 6) (N := some 31) (v := ?_) (a' := ?_) #[true, true, true, true, true, true, true, true, false, false, false, false, false, false, false, false, false] rfl rfl (take_ofW HT_.out HW_.out (by kernel_rfl)) (fun _ _ _ h => h) (Or.inl ⟨by rfl, ?_⟩) hHeld ?_ ?_
      rotate_left
      · rintro w' ⟨s0, s1, s2⟩
        go_simp
        with_reducible rfl
      rotate_left
      · simp only [Act.put, List.setIfInBounds_toArray, List.set_cons_zero, List.set_cons_succ, i64_w, i32_w]
        rfl
      -- 8: t33 := load 2 t32 : 2 
      refine take_ (i := 8) (N := some 33) (v := ?_) (a' := ?_) #[true, true, true, true, true, true, true, true, true, false, false, false, false, false, false, false, false] rfl rfl (take_ofW HT_.out HW_.out (by kernel_rfl)) (fun _ _ _ h => h) (Or.inl ⟨by rfl, ?_⟩) hHeld ?_ ?_
      rotate_left
      · rintro w' ⟨s0, s1, s2⟩
        go_simp
        with_reducible rfl
      rotate_left
      · simp only [Act.put, List.setIfInBounds_toArray, List.set_cons_zero, List.set_cons_succ, i64_w, i32_w]
        rfl
      -- 9: t34 := makeInterface 2 t33 : 20 
      refine pure_ (i := 9) (N := some 34) (v := ?_) (a' := ?_) #[true, true, true, true, true, true, true, true, true, true, false, false, false, false, false, false, false] rfl rfl (any_of HT_.out (by kernel_rfl)) (fun _ _ _ h => h) (Or.inl ⟨by rfl, ?_⟩) ?_ ?_
      rotate_left
      · intro w'
        go_simp
        with_reducible rfl
      rotate_left
      · simp only [Act.put, List.setIfInBounds_toArray, List.set_cons_zero, List.set_cons_succ, i64_w, i32_w]
        rfl
      -- 10: t35 := build 131 [(0, t31), (1, t34)] : 131 
      refine pure_ (i := 10) (N := some 35) (v := ?_) (a' := ?_) #[true, true, true, true, true, true, true, true, true, true, true, false, false, false, false, false, false] rfl rfl (any_of HT_.out (by kernel_rfl)) (fun _ _ _ h => h) (Or.inl ⟨by rfl, ?_⟩) ?_ ?_
      rotate_left
      · intro w'
        go_simp
        with_reducible rfl
      rotate_left
      · simp only [Act.put, List.setIfInBounds_toArray, List.set_cons_zero, List.set_cons_succ, i64_w, i32_w]
        rfl
      -- 11: t36 := makeInterface 131 t35 : 20 
      refine pure_ (i := 11) (N := some 36) (v := ?_) (a' := ?_) #[true, true, true, true, true, true, true, true, true, true, true, true, false, false, false, false, false] rfl rfl (any_of HT_.out (by kernel_rfl)) (fun _ _ _ h => h) (Or.inl ⟨by rfl, ?_⟩) ?_ ?_
      rotate_left
      · intro w'
        go_simp
        with_reducible rfl
      rotate_left
      · simp only [Act.put, List.setIfInBounds_toArray, List.set_cons_zero, List.set_cons_succ, i64_w, i32_w]
        rfl
      -- 12: t37 := buildSlice 95 1 [(0, t36)] : 95 
      refine one_ (i := 12) (N := some 37) #[true, true, true, true, true, true, true, true, true, true, true, true, true, false, false, false, false] rfl rfl (one_of HT_.out (by kernel_rfl)) (by decide) (fun K hK => ?_)
      refine event_step (v := .slice (some ⟨W.heap.size, 0, none⟩) 1 1) (w1 := W.alloc (.cells #[(.iface 131 (.agg #[.int .i64 ek, .iface 2 (.int .i64 ev)]))] 20)) (by rfl) (by first | (go_simp; done) | (go_simp; rfl)) ?_
      refine hK.out _ _ (HSP.out _ (blk_alloc HG.out _) (blk_alloc HX.out _)) (fun hHeld => ?_)
      clear hK K
      simp only [Act.put, List.setIfInBounds_toArray, List.set_cons_zero, List.set_cons_succ]
      -- 13: t38 := call (Callee.builtin append) [t29, t37] : 95 
      refine last_ (i := 13) (N := some 38) #[true, true, true, true, true, true, true, true, true, true, true, true, true, true, false, false, false] rfl rfl (one_of HT_.out (by kernel_rfl)) (by decide) (fun K hK => ?_)
      refine R_append_sl kAv (w0 := w) (W := W) w.heap.size (by rfl) (.tmp 29) (.tmp 37) 95 20 _ 16 (by rfl) Try.underlying95 info20 rfl (by decide) (by decide) lv (enA (es.take i)) (Av.en ek ev) [(.iface 131 (.agg #[.int .i64 ek, .iface 2 (.int .i64 ev)]))] (fun _ => True) (fun _ => False) (by rfl) (by rfl) rfl (fun _ hk => hk.elim) (fun _ _ => trivial) HLR.out HBW.out HBW.out.size HLN.out ?_
      intro A9 c9 w5 hR1 hB1 hg1
      rw [HLE.out] at hR1 ⊢
      have HG5 := Aside0.mk (blk_grown HG.out hg1 (Kd.R_ne HLR.out HG.out (show (20 : Nat) ≠ 99 by decide)))
      have HLR5 := Aside0.mk hR1
      have HBW5 := Aside0.mk hB1
      clear hR1 hB1 hg1
      refine hK.out _ _ ?_
      clear hK K
      simp only [Act.put, List.setIfInBounds_toArray, List.set_cons_zero, List.set_cons_succ]
      -- 14: t39 := nilCheck t25 : 0 
      refine pure_ (i := 14) (N := some 39) (v := ?_) (a' := ?_) #[true, true, true, true, true, true, true, true, true, true, true, true, true, true, true, false, false] rfl rfl (any_of HT_.out (by kernel_rfl)) (fun _ _ _ h => h) (Or.inl ⟨by rfl, ?_⟩) ?_ ?_
      rotate_left
      · intro w'
        go_simp
        with_reducible rfl
      rotate_left
      · simp only [Act.put, List.setIfInBounds_toArray, List.set_cons_zero, List.set_cons_succ, i64_w, i32_w]
        rfl
      -- 15: t40 := fieldAddr 99 t39 4 : 0 
      refine pure_ (i := 15) (N := some 40) (v := ?_) (a' := ?_) #[true, true, true, true, true, true, true, true, true, true, true, true, true, true, true, true, false] rfl rfl (any_of HT_.out (by kernel_rfl)) (fun _ _ _ h => h) (Or.inl ⟨by rfl, ?_⟩) ?_ ?_
      rotate_left
      · intro w'
        go_simp
        with_reducible rfl
      rotate_left
      · simp only [Act.put, List.setIfInBounds_toArray, List.set_cons_zero, List.set_cons_succ, i64_w, i32_w]
        rfl
      -- 16: _ := store 95 t40 t38 : 0 
      refine last_ (i := 16) (N := none) #[true, true, true, true, true, true, true, true, true, true, true, true, true, true, true, true, true] rfl rfl (one_of HT_.out (by kernel_rfl)) (by decide) (fun K hK => ?_)
      have z0 := (blk_cell HG5.out 4).trans (rfl : _ = some lv)
      have f0 := blk_frozen HG5.out 4
      refine skip_ (w1 := w5.setCell ⟨w.heap.size, 4, none⟩ (.slice A9 (i + 1) c9)) (by rfl) rfl (by first | (go_simp; done) | (go_simp; rfl)) ?_
      have HG := Aside0.mk (blk_set HG5.out 4 (.slice A9 (i + 1) c9))
      have HLR := Aside0.mk (Kd.R_set HLR5.out HG5.out (by decide) 4 (.slice A9 (i + 1) c9))
      have HBW := Aside0.mk (HBW5.out.setCell (p := ⟨w.heap.size, 4, none⟩) (Nat.le_refl _) (.slice A9 (i + 1) c9))
      clear HG5 HLR5 HBW5 z0 f0
      refine hK.out _ _ ?_
      clear hK K
      refine done_ (done_of HT_.out (by kernel_rfl)) ?_
      rw [← HTS.out] at HLR
      go_wp2
      go_roundg (es.length - (i + 1))
      case measure => have := hq.out; omega
      case rel => exact ⟨i + 1, _, by omega, ⟨rfl⟩, by go_num, HG, HLR, HBW⟩
    · have hkl : i = es.length := by omega
      subst hkl
      rw [List.take_length] at HLR
      obtain ⟨Al, cl, hbv⟩ := Kd.R_slice HLR.out
      rw [enA_len] at hbv
      subst hbv
      have HW := Aside0.mk (show WV wr w.heap.size w.heap.size ⟨.nilIface, .slice none 0 0, .slice none 0 0, .map none, .slice Al es.length cl⟩ [] from ⟨_, HG.out, Kd.R_nil _ _ _ _ _, Nat.le_refl _⟩)
      have HB := HBW
      clear HG HBW hq hlt hi
      go_wp2_with (go_at_call 62; refine (mkL_any _ _).mono ?_; rintro e_ w2 ⟨rfl, hb⟩; have HW := Aside0.mk (HW.out.below hb); have HLR := Aside0.mk (Kd.R_below HLR.out hb); have HB := Aside0.mk (below_then HB.out HB.out.size hb); clear hb)
      have B8 := Aside0.mk (heap_alloc_new w2 (.cells #[.string ⟨#[108]⟩] 132))
      have HW := Aside0.mk (HW.out.below (below_alloc (Below.refl _ _) (.cells #[.string ⟨#[108]⟩] 132)))
      have HLR := Aside0.mk (Kd.R_below HLR.out (below_alloc (Below.refl _ _) (.cells #[.string ⟨#[108]⟩] 132)))
      have HB := Aside0.mk (HB.out.alloc HB.out.size (.cells #[.string ⟨#[108]⟩] 132))
      obtain ⟨n8, hn8⟩ : ∃ n, n = w2.heap.size := ⟨_, rfl⟩
      rw [← hn8] at B8 ⊢
      clear hn8
      go_loopg [9, 45] l.length (fun kq v9 v45 w' => ∃ (k : Nat) (acc : List S36) (cur : List E2) (trs : List Tr), k ≤ l.length ∧ Aside0 (kq = l.length - k) ∧ v45 = .int .i64 k ∧ Aside0 (Kd.R k36 36 w' w.heap.size (fun _ => True) v9 acc) ∧ Aside0 (WV w' w.heap.size w.heap.size ⟨.nilIface, .slice none 0 0, .slice none 0 0, .map none, .slice Al es.length cl⟩ trs) ∧ Aside0 (acc ++ ansL (l.drop k) cur = ansL l (isort es) ∧ allT es trs = cur ∧ (∀ j, j < trs.length → TrL (rdTr trs j)) ∧ trs.length ≤ k ∧ acc.length ≤ k ∧ KB cur) ∧ Aside0 (w'.heap[n8]? = some (.cells #[.string ⟨#[108]⟩] 132 (0, 0))) ∧ Aside0 (Kd.R kAv 20 w' w.heap.size (fun _ => True) (.slice Al es.length cl) (enA es)) ∧ Aside0 (Below w.heap.size w w'))
      case atStart => exact ⟨0, [], isort es, [], Nat.zero_le _, ⟨by simp⟩, rfl, ⟨Kd.R_nil _ _ _ _ _⟩, HW, ⟨by simp, rfl, by simp, Nat.le_refl _, Nat.le_refl _, HKB.out⟩, B8, HLR, HB⟩
      case round =>
        clear HW HB B8 HLR
        obtain ⟨k, acc, cur, trs, hk, hq, rfl, HR, HW, HA, B8, HLR, HB⟩ := hrel
        have q1 : (l.length : Int) ≤ 1000 := by have := HL.out; omega
        by_cases hlt : k < l.length
        · obtain ⟨ad, ea, x0, x1, x2, x3, x4⟩ := atP HC.out k hlt
          subst ea
          replace x0 := (HB.out.cell (World.block_lt_of_cell? w _ x0)).trans x0
          replace x1 := (HB.out.cell (World.block_lt_of_cell? w _ x1)).trans x1
          replace x2 := (HB.out.cell (World.block_lt_of_cell? w _ x2)).trans x2
          replace x3 := (HB.out.cell (World.block_lt_of_cell? w _ x3)).trans x3
          replace x4 := (HB.out.cell (World.block_lt_of_cell? w _ x4)).trans x4
          have HO := Aside0.mk (okStep_opL (HOP.out k hlt))
          have HKS := Aside0.mk (HOP.out k hlt).2.2.2.1
          have HD := Aside0.mk (drop_rdP l k hlt)
          generalize hx : rdP l k = x at x0 x1 x2 x3 x4 HO HD HKS
          clear hx
          obtain ⟨s0, s1, s2, s3, s4⟩ := x
          simp only at x0 x1 x2 x3 x4
          have B8 := Aside0.mk (blk_below B8.out (below_alloc (Below.refl wr.heap.size wr) (.cells #[.int .i64 s0, .string s1, .int .i64 s2, .int .i64 s3, .int .i64 s4] 26)))
          have HW := Aside0.mk (HW.out.below (below_alloc (Below.refl wr.heap.size wr) (.cells #[.int .i64 s0, .string s1, .int .i64 s2, .int .i64 s3, .int .i64 s4] 26)))
          have HR := Aside0.mk (Kd.R_below HR.out (below_alloc (Below.refl wr.heap.size wr) (.cells #[.int .i64 s0, .string s1, .int .i64 s2, .int .i64 s3, .int .i64 s4] 26)))
          have HLR := Aside0.mk (Kd.R_below HLR.out (below_alloc (Below.refl wr.heap.size wr) (.cells #[.int .i64 s0, .string s1, .int .i64 s2, .int .i64 s3, .int .i64 s4] 26)))
          have HB := Aside0.mk (below_then HB.out HB.out.size (below_alloc (Below.refl wr.heap.size wr) (.cells #[.int .i64 s0, .string s1, .int .i64 s2, .int .i64 s3, .int .i64 s4] 26)))
          have HTL := Aside0.mk (show trs.length ≤ 1000000 by have := HA.out.2.2.2.1; have := HL.out; omega)
          have HTL2 := Aside0.mk (show trs.length ≤ 1000000000 by have := HTL.out; omega)
          have HEL := Aside0.mk (show es.length ≤ 1000000 by have := HVL.out; omega)
          have HAL := Aside0.mk (show (acc.length + 1) * 80 ≤ 140737488355328 by have := HA.out.2.2.2.2.1; have := HL.out; omega)
          have HCU := Aside0.mk (show cur.length ≤ 2000 by have h := allT_len es trs; rw [HA.out.2.1] at h; have := HA.out.2.2.2.1; have := HL.out; have := HVL.out; omega)
          have HCE := Aside0.mk (show Kd.C kAv (wr.alloc (.cells #[.int .i64 s0, .string s1, .int .i64 s2, .int .i64 s3, .int .i64 s4] 26)) Al es.length (enA es) by have h := (Kd.R_reads' HLR.out).2.2; rw [enA_len] at h; exact h)
          rcases HO.out with e0 | e0 | e0 | e0 | e0
          · have t0 : (s0 == 0) = true := beq_iff_eq.2 e0
            have HA2 := Aside0.mk (show acc ++ ansL (l.drop (k + 1)) (ins s3 s2 cur) = ansL l (isort es) by have h := HA.out.1; rw [HD.out] at h; simp only [ansL] at h; rw [if_pos (by exact e0)] at h; exact h)
            have HN := Aside0.mk (next_app HA.out.2.1 ⟨#[108]⟩ s3 s2)
            have HKB2 := Aside0.mk (show KB (ins s3 s2 cur) from HA.out.2.2.2.2.2.ins HKS.out.1 HKS.out.2)
            clear e0
            go_wp2_with (go_at_call 63; refine (listAdd_any n8 w.heap.size w.heap.size _ trs _ s3 s2 w _ B8.out HW.out HB.out HTL2.out).mono ?_; rintro e_ w3 ⟨rfl, h1, h2, h3⟩; have B8 := Aside0.mk (h2.blk B8.out (by decide) (by decide)); have HR := Aside0.mk (h2.R HR.out (by decide)); have HLR := Aside0.mk (h2.R HLR.out (by decide)); have HB := Aside0.mk h3; have HW := Aside0.mk h1; clear h1 h2 h3)
            go_roundg (l.length - (k + 1))
            case measure => have := hq.out; omega
            case rel => exact ⟨k + 1, acc, _, _, by omega, ⟨rfl⟩, by go_num, HR, HW, ⟨HA2.out, HN.out, Tr_snoc HA.out.2.2.1 (.inl ⟨_, _, _, rfl⟩), by have := HA.out.2.2.2.1; simp; omega, by have := HA.out.2.2.2.2.1; omega, HKB2.out⟩, B8, HLR, HB⟩
          · have t0 : (s0 == 0) = false := beq_eq_false_iff_ne.2 (by simp only at e0; omega)
            have t1 : (s0 == 1) = true := beq_iff_eq.2 e0
            have HA2 := Aside0.mk (show acc ++ ansL (l.drop (k + 1)) (([] : List E2)) = ansL l (isort es) by have h := HA.out.1; rw [HD.out] at h; simp only [ansL] at h; rw [if_neg (by simp only at e0 ⊢; omega), if_pos (by exact e0)] at h; exact h)
            have HN := Aside0.mk (next_all HA.out.2.1 HA.out.2.2.2.2.2 ⟨#[108]⟩)
            have HKB2 := Aside0.mk (show KB (([] : List E2)) from fun x hx => by cases hx)
            clear e0
            go_wp2_with (go_at_call 64; refine (listAll_any n8 w.heap.size w.heap.size _ trs _ w _ B8.out HW.out HB.out HTL2.out).mono ?_; rintro e_ w3 ⟨rfl, h1, h2, h3⟩; have B8 := Aside0.mk (h2.blk B8.out (by decide) (by decide)); have HR := Aside0.mk (h2.R HR.out (by decide)); have HLR := Aside0.mk (h2.R HLR.out (by decide)); have HB := Aside0.mk h3; have HW := Aside0.mk h1; clear h1 h2 h3)
            go_roundg (l.length - (k + 1))
            case measure => have := hq.out; omega
            case rel => exact ⟨k + 1, acc, _, _, by omega, ⟨rfl⟩, by go_num, HR, HW, ⟨HA2.out, HN.out, Tr_snoc HA.out.2.2.1 (.inr ⟨_, _, _, rfl⟩), by have := HA.out.2.2.2.1; simp; omega, by have := HA.out.2.2.2.2.1; omega, HKB2.out⟩, B8, HLR, HB⟩
          · have t0 : (s0 == 0) = false := beq_eq_false_iff_ne.2 (by simp only at e0; omega)
            have t1 : (s0 == 1) = false := beq_eq_false_iff_ne.2 (by simp only at e0; omega)
            have t6 : (s0 == 6) = false := beq_eq_false_iff_ne.2 (by simp only at e0; omega)
            have t2 : (s0 == 2) = true := beq_iff_eq.2 e0
            have HA2 := Aside0.mk (show (acc ++ [rdL (cur)]) ++ ansL (l.drop (k + 1)) cur = ansL l (isort es) by have h := HA.out.1; rw [HD.out] at h; simp only [ansL] at h; rw [if_neg (by simp only at e0 ⊢; omega), if_neg (by simp only at e0 ⊢; omega), if_neg (by simp only at e0 ⊢; omega), if_neg (by simp only at e0 ⊢; omega)] at h; rw [List.append_assoc]; exact h)
            have HPL := Aside0.mk HCU.out
            have HRD := Aside0.mk (read_whole HA.out.2.1 HA.out.2.2.2.2.2)
            clear e0
            go_wp2_with (go_at_call 66; refine (listRead_any n8 w.heap.size w.heap.size _ _ _ _ Al cl es trs _ _ B8.out HW.out HCE.out HA.out.2.2.1 HTL.out HEL.out cur HRD.out).mono ?_; rintro e_ w3 ⟨A_, c_, rfl, hC_, hc_, hb⟩; have HP := Aside0.mk hC_; have B8 := Aside0.mk (blk_below B8.out hb); have HW := Aside0.mk (HW.out.below hb); have HR := Aside0.mk (Kd.R_below HR.out hb); have HLR := Aside0.mk (Kd.R_below HLR.out hb); have HB := Aside0.mk (below_then HB.out HB.out.size hb); clear hb hC_ hc_)
            have HBV := Aside0.mk (rfl : decide (0 < (cur).length) = decide (0 < (cur).length))
            generalize hbb : decide (0 < cur.length) = bb at HBV ⊢
            have HBV := Aside0.mk hbb
            clear hbb
            have HTD := Aside0.mk (show TD w3 w3.heap.size w3.heap.size (.bool bb) (.slice none 0 0) (.slice none 0 0) (.slice none 0 0) (.slice none 0 0) (.slice none 0 0) [] [] (w3.alloc (.cells #[.bool bb, .slice none 0 0, .slice none 0 0, .slice none 0 0] 36)) from ⟨heap_alloc_new w3 _, Kd.R_nil _ _ _ _ _, Kd.R_nil _ _ _ _ _, below_alloc (Below.refl _ _) _, Nat.le_refl _⟩)
            obtain ⟨g4, hg4⟩ : ∃ g4, g4 = w3.heap.size := ⟨_, rfl⟩
            rw [← hg4] at HTD ⊢
            have HTD := Aside0.mk (show TD w3 w3.heap.size g4 (.bool bb) (.slice none 0 0) (.slice none 0 0) (.slice none 0 0) (.slice none 0 0) (.slice none 0 0) [] [] (w3.alloc (.cells #[.bool bb, .slice none 0 0, .slice none 0 0, .slice none 0 0] 36)) by rw [hg4] at HTD ⊢; exact HTD.out)
            have HG4 := Aside0.mk hg4
            clear hg4
            go_loopg [100] cur.length (fun kq v100 w' => ∃ (j : Nat) (vA vV : Value), j ≤ cur.length ∧ Aside0 (kq = cur.length - j) ∧ v100 = .int .i64 j ∧ Aside0 (TD w3 w3.heap.size g4 (.bool bb) (.slice none 0 0) vA vV vA vV (k2 (cur.take j)) (k1 (cur.take j)) w'))
            case atStart => exact ⟨0, _, _, Nat.zero_le _, ⟨by simp⟩, rfl, HTD⟩
            case round =>
              clear HTD
              obtain ⟨j, vA, vV, hj_, hqj, rfl, HT⟩ := hrel
              have qj : (cur.length : Int) ≤ 2000 := by have := HPL.out; omega
              by_cases hltj : j < cur.length
              · obtain ⟨ad2, ea2, y0, y1⟩ := atO HP.out j hltj
                subst ea2
                replace y0 := (HT.out.bel.cell (World.block_lt_of_cell? w3 _ y0)).trans y0
                replace y1 := (HT.out.bel.cell (World.block_lt_of_cell? w3 _ y1)).trans y1
                have HTK := Aside0.mk (takeE_succ cur j hltj)
                generalize rdE cur j = x at y0 y1 HTK
                obtain ⟨ek, ev⟩ := x
                simp only at y0 y1
                have HTL9 := Aside0.mk (show (cur.take j).length ≤ 2000 by have := HPL.out; rw [List.length_take]; omega)
                generalize cur.take j = pj at HT HTK HTL9
                have HT := Aside0.mk (TE.of (xc := #[.int .i64 ek, .int .i64 ev]) (HT.out.alloc (.cells #[.int .i64 ek, .int .i64 ev] 140)) (heap_alloc_new wr _))
                have HSP := Aside0.mk (fun (z : World) (h1 : z.heap[g4]? = some (.cells #[.bool bb, vA, .slice none 0 0, vV] 36 (0, 0))) (h2 : z.heap[wr.heap.size]? = some (.cells #[.int .i64 ek, .int .i64 ev] 140 (0, 0))) => (⟨(blk_cell h1 1).trans rfl, (blk_cell h1 3).trans rfl, (blk_cell h2 0).trans rfl, (blk_cell h2 1).trans rfl⟩ : z.cell? ⟨g4, 1, none⟩ = some (vA) ∧ z.cell? ⟨g4, 3, none⟩ = some (vV) ∧ z.cell? ⟨wr.heap.size, 0, none⟩ = some (.int .i64 ek) ∧ z.cell? ⟨wr.heap.size, 1, none⟩ = some (.int .i64 ev)))
                have K0 := HSP.out _ HT.out.drew.blk HT.out.drew.ex
                have HLX := Aside0.mk (show ((k2 pj).length + 1) * 8 ≤ 140737488355328 by rw [k2_len]; have := HTL9.out; omega)
                have HLY := Aside0.mk (show ((k1 pj).length + 1) * 8 ≤ 140737488355328 by rw [k1_len]; have := HTL9.out; omega)
                go_wp2_with fail
                refine start_ (n := 16) (S := fun w' => w'.cell? ⟨g4, 1, none⟩ = some (vA) ∧ w'.cell? ⟨g4, 3, none⟩ = some (vV) ∧ w'.cell? ⟨wr.heap.size, 0, none⟩ = some (.int .i64 ek) ∧ w'.cell? ⟨wr.heap.size, 1, none⟩ = some (.int .i64 ev)) (ds := [13, 15]) #[false, false, false, false, false, false, false, false, false, false, false, false, false, false, false, false] (by kernel_rfl) rfl rfl K0 (fun hHeld => ?_)
                refine with_tabW listRun_any.tab29 listRun_any.bits29 (fun HT_ HW_ => ?_)
                have HT := Aside0.mk HT.out.drew
                clear K0
                generalize (wr.alloc (.cells #[.int .i64 ek, .int .i64 ev] 140)).drew = W at HT hHeld ⊢
                -- 0: t104 := fieldAddr 36 t14 1 : 0 
                refine pure_ (i := 0) (N := some 104) (v := ?_) (a' := ?_) #[true, false, false, false, false, false, false, false, false, false, false, false, false, false, false, false] rfl rfl (any_of HT_.out (by kernel_rfl)) (fun _ _ _ h => h) (Or.inl ⟨by rfl, ?_⟩) ?_ ?_
                rotate_left
                · intro w'
                  go_simp
                  with_reducible rfl
                rotate_left
                · simp only [Act.put, List.setIfInBounds_toArray, List.set_cons_zero, List.set_cons_succ, i64_w, i32_w]
                  rfl
                -- 2: t106 := fieldAddr 140 t16 1 : 0 
                refine pure_ (i := 2) (N := some 106) (v := ?_) (a' := ?_) #[true, false, true, false, false, false, false, false, false, false, false, false, false, false, false, false] rfl rfl (any_of HT_.out (by kernel_rfl)) (fun _ _ _ h => h) (Or.inl ⟨by rfl, ?_⟩) ?_ ?_
                rotate_left
                · intro w'
                  go_simp
                  with_reducible rfl
                rotate_left
                · simp only [Act.put, List.setIfInBounds_toArray, List.set_cons_zero, List.set_cons_succ, i64_w, i32_w]
                  rfl
                -- 6: t110 := fieldAddr 36 t14 3 : 0 
                refine pure_ (i := 6) (N := some 110) (v := ?_) (a' := ?_) #[true, false, true, false, false, false, true, false, false, false, false, false, false, false, false, false] rfl rfl (any_of HT_.out (by kernel_rfl)) (fun _ _ _ h => h) (Or.inl ⟨by rfl, ?_⟩) ?_ ?_
                rotate_left
                · intro w'
                  go_simp
                  with_reducible rfl
                rotate_left
                · simp only [Act.put, List.setIfInBounds_toArray, List.set_cons_zero, List.set_cons_succ, i64_w, i32_w]
                  rfl
                -- 8: t112 := fieldAddr 140 t16 0 : 0 
                refine pure_ (i := 8) (N := some 112) (v := ?_) (a' := ?_) #[true, false, true, false, false, false, true, false, true, false, false, false, false, false, false, false] rfl rfl (any_of HT_.out (by kernel_rfl)) (fun _ _ _ h => h) (Or.inl ⟨by rfl, ?_⟩) ?_ ?_
                rotate_left
                · intro w'
                  go_simp
                  with_reducible rfl
                rotate_left
                · simp only [Act.put, List.setIfInBounds_toArray, List.set_cons_zero, List.set_cons_succ, i64_w, i32_w]
                  rfl
                -- 1: t105 := load 33 t104 : 33 
                refine take_ (i := 1) (N := some 105) (v := ?_) (a' := ?_) #[true, true, true, false, false, false, true, false, true, false, false, false, false, false, false, false] rfl rfl (take_ofW HT_.out HW_.out (by kernel_rfl)) (fun _ _ _ h => h) (Or.inl ⟨by rfl, ?_⟩) hHeld ?_ ?_
                rotate_left
                · rintro w' ⟨s0, s1, s2, s3⟩
                  go_simp
                  with_reducible rfl
                rotate_left
                · simp only [Act.put, List.setIfInBounds_toArray, List.set_cons_zero, List.set_cons_succ, i64_w, i32_w]
                  rfl
                -- 3: t107 := load 2 t106 : 2 
                refine take_ (i := 3) (N := some 107) (v := ?_) (a' := ?_) #[true, true, true, true, false, false, true, false, true, false, false, false, false, false, false, false] rfl rfl (take_ofW HT_.out HW_.out (by kernel_rfl)) (fun _ _ _ h => h) (Or.inl ⟨by rfl, ?_⟩) hHeld ?_ ?_
                rotate_left
                · rintro w' ⟨s0, s1, s2, s3⟩
                  go_simp
                  with_reducible rfl
                rotate_left
                · simp only [Act.put, List.setIfInBounds_toArray, List.set_cons_zero, List.set_cons_succ, i64_w, i32_w]
                  rfl
                -- 7: t111 := load 33 t110 : 33 
                refine take_ (i := 7) (N := some 111) (v := ?_) (a' := ?_) #[true, true, true, true, false, false, true, true, true, false, false, false, false, false, false, false] rfl rfl (take_ofW HT_.out HW_.out (by kernel_rfl)) (fun _ _ _ h => h) (Or.inl ⟨by rfl, ?_⟩) hHeld ?_ ?_
                rotate_left
                · rintro w' ⟨s0, s1, s2, s3⟩
                  go_simp
                  with_reducible rfl
                rotate_left
                · simp only [Act.put, List.setIfInBounds_toArray, List.set_cons_zero, List.set_cons_succ, i64_w, i32_w]
                  rfl
                -- 9: t113 := load 2 t112 : 2 
                refine take_ (i := 9) (N := some 113) (v := ?_) (a' := ?_) #[true, true, true, true, false, false, true, true, true, true, false, false, false, false, false, false] rfl rfl (take_ofW HT_.out HW_.out (by kernel_rfl)) (fun _ _ _ h => h) (Or.inl ⟨by rfl, ?_⟩) hHeld ?_ ?_
                rotate_left
                · rintro w' ⟨s0, s1, s2, s3⟩
                  go_simp
                  with_reducible rfl
                rotate_left
                · simp only [Act.put, List.setIfInBounds_toArray, List.set_cons_zero, List.set_cons_succ, i64_w, i32_w]
                  rfl
                refine join_ (σ := (Nat × Nat × Option Addr × Nat × Option Addr × Nat)) 3 #[true, true, true, true, true, true, true, true, true, true, true, true, true, false, false, false] (fun s_ => [(108, .slice (some ⟨s_.1, 0, none⟩) 1 1), (109, .slice s_.2.2.1 ((k2 pj).length + 1) s_.2.2.2.1), (114, .slice (some ⟨s_.2.1, 0, none⟩) 1 1), (115, .slice s_.2.2.2.2.1 ((k1 pj).length + 1) s_.2.2.2.2.2), (116, .pointer (some ⟨g4, 1, none⟩))]) (fun s_ w' => TE w3 w3.heap.size g4 wr.heap.size #[.int .i64 ek, .int .i64 ev] (.bool bb) (.slice none 0 0) vA vV (.slice s_.2.2.1 ((k2 pj).length + 1) s_.2.2.2.1) (.slice s_.2.2.2.2.1 ((k1 pj).length + 1) s_.2.2.2.2.2) (k2 pj ++ [ev]) (k1 pj ++ [ek]) w') ?_ ?_
                rotate_left
                · intro hCont
                  refine two_ (i := 4) (j := 10) (Ni := some 108) (Nj := some 114) #[true, true, true, true, true, false, true, true, true, true, false, false, false, false, false, false] #[true, true, true, true, false, false, true, true, true, true, true, false, false, false, false, false] rfl rfl rfl rfl (two_of HT_.out (by kernel_rfl)) (by decide) (by decide) (fun K hK => ?_) (fun K hK => ?_)
                  · skip
                    refine event_step (v := .slice (some ⟨W.heap.size, 0, none⟩) 1 1) (w1 := W.alloc (.cells #[.int .i64 ev] 2)) (by rfl) (by first | (go_simp; done) | (go_simp; rfl)) ?_
                    have HLA := Aside0.mk (HT.out.lit ev)
                    have HT := Aside0.mk (HT.out.alloc (.cells #[.int .i64 ev] 2))
                    refine hK.out _ _ (HSP.out _ HT.out.blk HT.out.ex) (fun hHeld => ?_)
                    clear hK K
                    refine norm_ (a' := ?_) ?_ ?_
                    rotate_left
                    · show Act.put _ (some 108) _ = _
                      simp only [Act.put, List.setIfInBounds_toArray, List.set_cons_zero, List.set_cons_succ, i64_w, i32_w]
                      rfl
                    refine two_ (i := 5) (j := 10) (Ni := some 109) (Nj := some 114) #[true, true, true, true, true, true, true, true, true, true, false, false, false, false, false, false] #[true, true, true, true, true, false, true, true, true, true, true, false, false, false, false, false] rfl rfl rfl rfl (two_of HT_.out (by kernel_rfl)) (by decide) (by decide) (fun K hK => ?_) (fun K hK => ?_)
                    · skip
                      refine TE.appA (W := (W.alloc (.cells #[.int .i64 ev] 2))) (p := ev) (n := W.heap.size) HT.out HLA.out (by rfl) (.tmp 105) (.tmp 108) 33 (by rfl) Try.underlying33 info2 (by rfl) (by rfl) HLX.out ?_
                      intro AA cA wA hT1 hL1
                      have HT := Aside0.mk hT1
                      clear hT1 hL1
                      refine hK.out _ _ (HSP.out _ HT.out.blk HT.out.ex) (fun hHeld => ?_)
                      clear hK K
                      refine norm_ (a' := ?_) ?_ ?_
                      rotate_left
                      · show Act.put _ (some 109) _ = _
                        simp only [Act.put, List.setIfInBounds_toArray, List.set_cons_zero, List.set_cons_succ, i64_w, i32_w]
                        rfl
                      refine pure_ (i := 12) (N := some 116) (v := ?_) (a' := ?_) #[true, true, true, true, true, true, true, true, true, true, false, false, true, false, false, false] rfl rfl (any_of HT_.out (by kernel_rfl)) (fun _ _ _ h => h) (Or.inl ⟨by rfl, ?_⟩) ?_ ?_
                      rotate_left
                      · intro w'
                        go_simp
                        with_reducible rfl
                      rotate_left
                      · simp only [Act.put, List.setIfInBounds_toArray, List.set_cons_zero, List.set_cons_succ, i64_w, i32_w]
                        rfl
                      refine one_ (i := 10) (N := some 114) #[true, true, true, true, true, true, true, true, true, true, true, false, true, false, false, false] rfl rfl (one_of HT_.out (by kernel_rfl)) (by decide) (fun K hK => ?_)
                      refine event_step (v := .slice (some ⟨wA.heap.size, 0, none⟩) 1 1) (w1 := wA.alloc (.cells #[.int .i64 ek] 2)) (by rfl) (by first | (go_simp; done) | (go_simp; rfl)) ?_
                      have HLV := Aside0.mk (HT.out.lit ek)
                      have HT := Aside0.mk (HT.out.alloc (.cells #[.int .i64 ek] 2))
                      refine hK.out _ _ (HSP.out _ HT.out.blk HT.out.ex) (fun hHeld => ?_)
                      clear hK K
                      refine norm_ (a' := ?_) ?_ ?_
                      rotate_left
                      · show Act.put _ (some 114) _ = _
                        simp only [Act.put, List.setIfInBounds_toArray, List.set_cons_zero, List.set_cons_succ, i64_w, i32_w]
                        rfl
                      refine one_ (i := 11) (N := some 115) #[true, true, true, true, true, true, true, true, true, true, true, true, true, false, false, false] rfl rfl (one_of HT_.out (by kernel_rfl)) (by decide) (fun K hK => ?_)
                      refine TE.appV (W := (wA.alloc (.cells #[.int .i64 ek] 2))) (p := ek) (n := wA.heap.size) HT.out HLV.out (by rfl) (.tmp 111) (.tmp 114) 33 (by rfl) Try.underlying33 info2 (by rfl) (by rfl) HLY.out ?_
                      intro AV cV wV hT1 hL1
                      have HT := Aside0.mk hT1
                      clear hT1 hL1
                      refine hK.out _ _ (HSP.out _ HT.out.blk HT.out.ex) (fun hHeld => ?_)
                      clear hK K
                      refine norm_ (a' := ?_) ?_ ?_
                      rotate_left
                      · show Act.put _ (some 115) _ = _
                        simp only [Act.put, List.setIfInBounds_toArray, List.set_cons_zero, List.set_cons_succ, i64_w, i32_w]
                        rfl
                      exact norm_ (by simp only [putAll, Act.put, List.setIfInBounds_toArray, List.set_cons_zero, List.set_cons_succ]) (hCont (W.heap.size, wA.heap.size, AA, cA, AV, cV) _ HT.out)
                    · skip
                      refine event_step (v := .slice (some ⟨(W.alloc (.cells #[.int .i64 ev] 2)).heap.size, 0, none⟩) 1 1) (w1 := (W.alloc (.cells #[.int .i64 ev] 2)).alloc (.cells #[.int .i64 ek] 2)) (by rfl) (by first | (go_simp; done) | (go_simp; rfl)) ?_
                      have HLV := Aside0.mk (HT.out.lit ek)
                      have HLA := Aside0.mk (HLA.out.alloc (.cells #[.int .i64 ek] 2))
                      have HT := Aside0.mk (HT.out.alloc (.cells #[.int .i64 ek] 2))
                      refine hK.out _ _ (HSP.out _ HT.out.blk HT.out.ex) (fun hHeld => ?_)
                      clear hK K
                      refine norm_ (a' := ?_) ?_ ?_
                      rotate_left
                      · show Act.put _ (some 114) _ = _
                        simp only [Act.put, List.setIfInBounds_toArray, List.set_cons_zero, List.set_cons_succ, i64_w, i32_w]
                        rfl
                      refine one_ (i := 5) (N := some 109) #[true, true, true, true, true, true, true, true, true, true, true, false, false, false, false, false] rfl rfl (one_of HT_.out (by kernel_rfl)) (by decide) (fun K hK => ?_)
                      refine TE.appA (W := ((W.alloc (.cells #[.int .i64 ev] 2)).alloc (.cells #[.int .i64 ek] 2))) (p := ev) (n := W.heap.size) HT.out HLA.out (by rfl) (.tmp 105) (.tmp 108) 33 (by rfl) Try.underlying33 info2 (by rfl) (by rfl) HLX.out ?_
                      intro AA cA wA hT1 hL1
                      have HT := Aside0.mk hT1
                      have HLV := Aside0.mk (hL1 _ _ HLV.out)
                      clear hT1 hL1
                      refine hK.out _ _ (HSP.out _ HT.out.blk HT.out.ex) (fun hHeld => ?_)
                      clear hK K
                      refine norm_ (a' := ?_) ?_ ?_
                      rotate_left
                      · show Act.put _ (some 109) _ = _
                        simp only [Act.put, List.setIfInBounds_toArray, List.set_cons_zero, List.set_cons_succ, i64_w, i32_w]
                        rfl
                      refine pure_ (i := 12) (N := some 116) (v := ?_) (a' := ?_) #[true, true, true, true, true, true, true, true, true, true, true, false, true, false, false, false] rfl rfl (any_of HT_.out (by kernel_rfl)) (fun _ _ _ h => h) (Or.inl ⟨by rfl, ?_⟩) ?_ ?_
                      rotate_left
                      · intro w'
                        go_simp
                        with_reducible rfl
                      rotate_left
                      · simp only [Act.put, List.setIfInBounds_toArray, List.set_cons_zero, List.set_cons_succ, i64_w, i32_w]
                        rfl
                      refine one_ (i := 11) (N := some 115) #[true, true, true, true, true, true, true, true, true, true, true, true, true, false, false, false] rfl rfl (one_of HT_.out (by kernel_rfl)) (by decide) (fun K hK => ?_)
                      refine TE.appV (W := wA) (p := ek) (n := (W.alloc (.cells #[.int .i64 ev] 2)).heap.size) HT.out HLV.out (by rfl) (.tmp 111) (.tmp 114) 33 (by rfl) Try.underlying33 info2 (by rfl) (by rfl) HLY.out ?_
                      intro AV cV wV hT1 hL1
                      have HT := Aside0.mk hT1
                      clear hT1 hL1
                      refine hK.out _ _ (HSP.out _ HT.out.blk HT.out.ex) (fun hHeld => ?_)
                      clear hK K
                      refine norm_ (a' := ?_) ?_ ?_
                      rotate_left
                      · show Act.put _ (some 115) _ = _
                        simp only [Act.put, List.setIfInBounds_toArray, List.set_cons_zero, List.set_cons_succ, i64_w, i32_w]
                        rfl
                      exact norm_ (by simp only [putAll, Act.put, List.setIfInBounds_toArray, List.set_cons_zero, List.set_cons_succ]) (hCont (W.heap.size, (W.alloc (.cells #[.int .i64 ev] 2)).heap.size, AA, cA, AV, cV) _ HT.out)
                  · skip
                    refine event_step (v := .slice (some ⟨W.heap.size, 0, none⟩) 1 1) (w1 := W.alloc (.cells #[.int .i64 ek] 2)) (by rfl) (by first | (go_simp; done) | (go_simp; rfl)) ?_
                    have HLV := Aside0.mk (HT.out.lit ek)
                    have HT := Aside0.mk (HT.out.alloc (.cells #[.int .i64 ek] 2))
                    refine hK.out _ _ (HSP.out _ HT.out.blk HT.out.ex) (fun hHeld => ?_)
                    clear hK K
                    refine norm_ (a' := ?_) ?_ ?_
                    rotate_left
                    · show Act.put _ (some 114) _ = _
                      simp only [Act.put, List.setIfInBounds_toArray, List.set_cons_zero, List.set_cons_succ, i64_w, i32_w]
                      rfl
                    refine one_ (i := 4) (N := some 108) #[true, true, true, true, true, false, true, true, true, true, true, false, false, false, false, false] rfl rfl (one_of HT_.out (by kernel_rfl)) (by decide) (fun K hK => ?_)
                    refine event_step (v := .slice (some ⟨(W.alloc (.cells #[.int .i64 ek] 2)).heap.size, 0, none⟩) 1 1) (w1 := (W.alloc (.cells #[.int .i64 ek] 2)).alloc (.cells #[.int .i64 ev] 2)) (by rfl) (by first | (go_simp; done) | (go_simp; rfl)) ?_
                    have HLA := Aside0.mk (HT.out.lit ev)
                    have HLV := Aside0.mk (HLV.out.alloc (.cells #[.int .i64 ev] 2))
                    have HT := Aside0.mk (HT.out.alloc (.cells #[.int .i64 ev] 2))
                    refine hK.out _ _ (HSP.out _ HT.out.blk HT.out.ex) (fun hHeld => ?_)
                    clear hK K
                    refine norm_ (a' := ?_) ?_ ?_
                    rotate_left
                    · show Act.put _ (some 108) _ = _
                      simp only [Act.put, List.setIfInBounds_toArray, List.set_cons_zero, List.set_cons_succ, i64_w, i32_w]
                      rfl
                    refine one_ (i := 5) (N := some 109) #[true, true, true, true, true, true, true, true, true, true, true, false, false, false, false, false] rfl rfl (one_of HT_.out (by kernel_rfl)) (by decide) (fun K hK => ?_)
                    refine TE.appA (W := ((W.alloc (.cells #[.int .i64 ek] 2)).alloc (.cells #[.int .i64 ev] 2))) (p := ev) (n := (W.alloc (.cells #[.int .i64 ek] 2)).heap.size) HT.out HLA.out (by rfl) (.tmp 105) (.tmp 108) 33 (by rfl) Try.underlying33 info2 (by rfl) (by rfl) HLX.out ?_
                    intro AA cA wA hT1 hL1
                    have HT := Aside0.mk hT1
                    have HLV := Aside0.mk (hL1 _ _ HLV.out)
                    clear hT1 hL1
                    refine hK.out _ _ (HSP.out _ HT.out.blk HT.out.ex) (fun hHeld => ?_)
                    clear hK K
                    refine norm_ (a' := ?_) ?_ ?_
                    rotate_left
                    · show Act.put _ (some 109) _ = _
                      simp only [Act.put, List.setIfInBounds_toArray, List.set_cons_zero, List.set_cons_succ, i64_w, i32_w]
                      rfl
                    refine pure_ (i := 12) (N := some 116) (v := ?_) (a' := ?_) #[true, true, true, true, true, true, true, true, true, true, true, false, true, false, false, false] rfl rfl (any_of HT_.out (by kernel_rfl)) (fun _ _ _ h => h) (Or.inl ⟨by rfl, ?_⟩) ?_ ?_
                    rotate_left
                    · intro w'
                      go_simp
                      with_reducible rfl
                    rotate_left
                    · simp only [Act.put, List.setIfInBounds_toArray, List.set_cons_zero, List.set_cons_succ, i64_w, i32_w]
                      rfl
                    refine one_ (i := 11) (N := some 115) #[true, true, true, true, true, true, true, true, true, true, true, true, true, false, false, false] rfl rfl (one_of HT_.out (by kernel_rfl)) (by decide) (fun K hK => ?_)
                    refine TE.appV (W := wA) (p := ek) (n := W.heap.size) HT.out HLV.out (by rfl) (.tmp 111) (.tmp 114) 33 (by rfl) Try.underlying33 info2 (by rfl) (by rfl) HLY.out ?_
                    intro AV cV wV hT1 hL1
                    have HT := Aside0.mk hT1
                    clear hT1 hL1
                    refine hK.out _ _ (HSP.out _ HT.out.blk HT.out.ex) (fun hHeld => ?_)
                    clear hK K
                    refine norm_ (a' := ?_) ?_ ?_
                    rotate_left
                    · show Act.put _ (some 115) _ = _
                      simp only [Act.put, List.setIfInBounds_toArray, List.set_cons_zero, List.set_cons_succ, i64_w, i32_w]
                      rfl
                    exact norm_ (by simp only [putAll, Act.put, List.setIfInBounds_toArray, List.set_cons_zero, List.set_cons_succ]) (hCont ((W.alloc (.cells #[.int .i64 ek] 2)).heap.size, W.heap.size, AA, cA, AV, cV) _ HT.out)
                · skip
                  rintro ⟨nA, nV, A1_, c1_, A2_, c2_⟩ w_ hT_
                  have HT := Aside0.mk hT_
                  clear hT_
                  simp only [putAll, Act.put, List.setIfInBounds_toArray, List.set_cons_zero, List.set_cons_succ]
                  -- 13: _ := store 33 t116 t109 : 0 
                  refine last_ (i := 13) (N := none) #[true, true, true, true, true, true, true, true, true, true, true, true, true, true, false, false] rfl rfl (one_of HT_.out (by kernel_rfl)) (by decide) (fun K hK => ?_)
                  have z0 := (blk_cell HT.out.blk 1).trans (rfl : _ = some (vA))
                  have f0 := blk_frozen HT.out.blk 1
                  refine skip_ (w1 := w_.setCell ⟨g4, 1, none⟩ (.slice A1_ ((k2 pj).length + 1) c1_)) (by rfl) rfl (by first | (go_simp; done) | (go_simp; rfl)) ?_
                  have HT := Aside0.mk (HT.out.set0 (.slice A1_ ((k2 pj).length + 1) c1_))
                  refine hK.out _ _ ?_
                  clear hK K z0 f0
                  -- 14: t117 := fieldAddr 36 t14 3 : 0 
                  refine pure_ (i := 14) (N := some 117) (v := ?_) (a' := ?_) #[true, true, true, true, true, true, true, true, true, true, true, true, true, true, true, false] rfl rfl (any_of HT_.out (by kernel_rfl)) (fun _ _ _ h => h) (Or.inl ⟨by rfl, ?_⟩) ?_ ?_
                  rotate_left
                  · intro w'
                    go_simp
                    with_reducible rfl
                  rotate_left
                  · simp only [Act.put, List.setIfInBounds_toArray, List.set_cons_zero, List.set_cons_succ, i64_w, i32_w]
                    rfl
                  -- 15: _ := store 33 t117 t115 : 0 
                  refine last_ (i := 15) (N := none) #[true, true, true, true, true, true, true, true, true, true, true, true, true, true, true, true] rfl rfl (one_of HT_.out (by kernel_rfl)) (by decide) (fun K hK => ?_)
                  have z0 := (blk_cell HT.out.blk 3).trans (rfl : _ = some (vV))
                  have f0 := blk_frozen HT.out.blk 3
                  refine skip_ (w1 := (w_.setCell ⟨g4, 1, none⟩ (.slice A1_ ((k2 pj).length + 1) c1_)).setCell ⟨g4, 3, none⟩ (.slice A2_ ((k1 pj).length + 1) c2_)) (by rfl) rfl (by first | (go_simp; done) | (go_simp; rfl)) ?_
                  have HT := Aside0.mk (HT.out.set1 (.slice A2_ ((k1 pj).length + 1) c2_))
                  refine hK.out _ _ ?_
                  clear hK K z0 f0
                  refine done_ (done_of HT_.out (by kernel_rfl)) ?_
                  go_wp2
                  go_roundg (cur.length - (j + 1))
                  case measure => have := hqj.out; omega
                  case rel => exact ⟨j + 1, _, _, by omega, ⟨rfl⟩, by go_num, ⟨by rw [HTK.out, k1_snoc, k2_snoc]; exact HT.out.to⟩⟩
              · have hkl : j = cur.length := by omega
                subst hkl
                rw [List.take_length] at HT
                obtain ⟨Bv, dv, hv1⟩ := Kd.R_slice HT.out.rA
                obtain ⟨Ba, da, hv2⟩ := Kd.R_slice HT.out.rV
                rw [k2_len] at hv1
                rw [k1_len] at hv2
                subst hv1; subst hv2
                have x0 := (blk_cell HT.out.blk 0).trans (rfl : _ = some (Value.bool bb))
                have x1 := (blk_cell HT.out.blk 1).trans (rfl : _ = some (Value.slice Bv cur.length dv))
                have x2 := (blk_cell HT.out.blk 2).trans (rfl : _ = some (Value.slice none 0 0))
                have x3 := (blk_cell HT.out.blk 3).trans (rfl : _ = some (Value.slice Ba cur.length da))
                have HRA := Aside0.mk (Kd.R_mono (Kd.R_lower (Kd.R_bound HT.out.rA) HB.out.size) (ok' := fun q => w3.heap.size ≤ q) (fun q hq => hq.2.1))
                have HRV := Aside0.mk (Kd.R_mono (Kd.R_lower (Kd.R_bound HT.out.rV) HB.out.size) (ok' := fun q => w3.heap.size ≤ q) (fun q hq => hq.2.1))
                have HOK := Aside0.mk (show ∀ q : Nat, w3.heap.size ≤ q → some q ≠ u9.ownBlock from fun q hq hk => absurd (Kd.R_lt HR.out q hk.symm) (by omega))
                have HR := Aside0.mk (Kd.R_below HR.out HT.out.bel)
                have HW := Aside0.mk (HW.out.below HT.out.bel)
                have HLR := Aside0.mk (Kd.R_below HLR.out HT.out.bel)
                have B8 := Aside0.mk (blk_below B8.out HT.out.bel)
                have HB := Aside0.mk (below_then HB.out HB.out.size HT.out.bel)
                have HBB := Aside0.mk (show rdL cur = ⟨bb, k2 cur, [], k1 cur⟩ by unfold rdL; rw [HBV.out])
                go_wp2_with ((with_reducible refine gate_builtin (b := .append) (xs := #[.tmp 119, .tmp 121]) rfl ?_); at_builtin; refine Kd.R_append k36 (w0 := w) (W := wr) w.heap.size rfl (.tmp 119) (.tmp 121) 29 36 _ 80 rfl Try.underlying29 info36 rfl (by decide) (by decide) _ acc (rdL cur) [.bool bb, .slice Bv cur.length dv, .slice none 0 0, .slice Ba cur.length da] (fun _ => True) (fun q => w3.heap.size ≤ q) rfl ?aX ?aP ?aK (fun _ _ => trivial) HR.out HB.out HB.out.size HAL.out ?_; (case aX => first | (go_simp; done) | (go_simp; rfl)); (case aP => rw [HBB.out]; exact k36_mkM _ _ _ ⟨bb, k2 cur, [], k1 cur⟩ HRA.out (Kd.R_nil _ _ _ _ _) HRV.out); (case aK => exact (fun q hq => ⟨trivial, HOK.out q hq⟩)); intro v1_ w4 hR1 hB1 hg1 hat1; have HW := Aside0.mk (HW.out.grown HR.out hg1 (by decide) (by decide)); have B8 := Aside0.mk (blk_grown B8.out hg1 (Kd.R_ne HR.out B8.out (show (36 : Nat) ≠ 132 by decide))); have HLR := Aside0.mk (Kd.R_over' HLR.out (Kd.R_typed HR.out) (by decide) hg1); have HR := Aside0.mk hR1; have HB := Aside0.mk hB1; clear hR1 hB1 hg1 hat1)
                go_roundg (l.length - (k + 1))
                case measure => have := hq.out; omega
                case rel => exact ⟨k + 1, acc ++ [rdL cur], cur, trs, by omega, ⟨rfl⟩, by go_num, HR, HW, ⟨HA2.out, HA.out.2.1, HA.out.2.2.1, by have := HA.out.2.2.2.1; omega, by have := HA.out.2.2.2.2.1; simp; omega, HA.out.2.2.2.2.2⟩, B8, HLR, HB⟩
          · have t0 : (s0 == 0) = false := beq_eq_false_iff_ne.2 (by simp only at e0; omega)
            have t1 : (s0 == 1) = false := beq_eq_false_iff_ne.2 (by simp only at e0; omega)
            have t6 : (s0 == 6) = false := beq_eq_false_iff_ne.2 (by simp only at e0; omega)
            have t2 : (s0 == 2) = false := beq_eq_false_iff_ne.2 (by simp only at e0; omega)
            have t5 : (s0 == 5) = true := beq_iff_eq.2 e0
            have HA2 := Aside0.mk (show (acc ++ [rdL (cur.filter (pt s3 s4 false))]) ++ ansL (l.drop (k + 1)) cur = ansL l (isort es) by have h := HA.out.1; rw [HD.out] at h; simp only [ansL] at h; rw [if_neg (by simp only at e0 ⊢; omega), if_neg (by simp only at e0 ⊢; omega), if_neg (by simp only at e0 ⊢; omega), if_pos (by exact e0)] at h; rw [List.append_assoc]; exact h)
            have HPL := Aside0.mk (show (cur.filter (pt s3 s4 false)).length ≤ 2000 from Nat.le_trans (List.length_filter_le _ _) HCU.out)
            have HRD := Aside0.mk (read_part HA.out.2.1 s3 s4)
            clear e0
            go_wp2_with (go_at_call 67; refine (readRange_any n8 w.heap.size w.heap.size s3 s4 _ _ _ _ Al cl es trs _ _ B8.out HW.out HCE.out HA.out.2.2.1 HTL.out HEL.out).mono ?_; rintro e_ w3 ⟨A_, c_, rfl, hC_, hc_, hb⟩; rw [HRD.out] at hC_ hc_ ⊢; have HP := Aside0.mk hC_; have B8 := Aside0.mk (blk_below B8.out hb); have HW := Aside0.mk (HW.out.below hb); have HR := Aside0.mk (Kd.R_below HR.out hb); have HLR := Aside0.mk (Kd.R_below HLR.out hb); have HB := Aside0.mk (below_then HB.out HB.out.size hb); clear hb hC_ hc_)
            have HBV := Aside0.mk (rfl : decide (0 < (cur.filter (pt s3 s4 false)).length) = decide (0 < (cur.filter (pt s3 s4 false)).length))
            obtain ⟨part, hpart⟩ : ∃ part, cur.filter (pt s3 s4 false) = part := ⟨_, rfl⟩
            rw [hpart] at HA2 HPL HP HBV ⊢
            clear hpart HRD
            generalize hbb : decide (0 < part.length) = bb at HBV ⊢
            have HBV := Aside0.mk hbb
            clear hbb
            have HTD := Aside0.mk (show TD w3 w3.heap.size w3.heap.size (.bool bb) (.slice none 0 0) (.slice none 0 0) (.slice none 0 0) (.slice none 0 0) (.slice none 0 0) [] [] (w3.alloc (.cells #[.bool bb, .slice none 0 0, .slice none 0 0, .slice none 0 0] 36)) from ⟨heap_alloc_new w3 _, Kd.R_nil _ _ _ _ _, Kd.R_nil _ _ _ _ _, below_alloc (Below.refl _ _) _, Nat.le_refl _⟩)
            obtain ⟨g4, hg4⟩ : ∃ g4, g4 = w3.heap.size := ⟨_, rfl⟩
            rw [← hg4] at HTD ⊢
            have HTD := Aside0.mk (show TD w3 w3.heap.size g4 (.bool bb) (.slice none 0 0) (.slice none 0 0) (.slice none 0 0) (.slice none 0 0) (.slice none 0 0) [] [] (w3.alloc (.cells #[.bool bb, .slice none 0 0, .slice none 0 0, .slice none 0 0] 36)) by rw [hg4] at HTD ⊢; exact HTD.out)
            have HG4 := Aside0.mk hg4
            clear hg4
            go_loopg [100] part.length (fun kq v100 w' => ∃ (j : Nat) (vA vV : Value), j ≤ part.length ∧ Aside0 (kq = part.length - j) ∧ v100 = .int .i64 j ∧ Aside0 (TD w3 w3.heap.size g4 (.bool bb) (.slice none 0 0) vA vV vA vV (k2 (part.take j)) (k1 (part.take j)) w'))
            case atStart => exact ⟨0, _, _, Nat.zero_le _, ⟨by simp⟩, rfl, HTD⟩
            case round =>
              clear HTD
              obtain ⟨j, vA, vV, hj_, hqj, rfl, HT⟩ := hrel
              have qj : (part.length : Int) ≤ 2000 := by have := HPL.out; omega
              by_cases hltj : j < part.length
              · obtain ⟨ad2, ea2, y0, y1⟩ := atO HP.out j hltj
                subst ea2
                replace y0 := (HT.out.bel.cell (World.block_lt_of_cell? w3 _ y0)).trans y0
                replace y1 := (HT.out.bel.cell (World.block_lt_of_cell? w3 _ y1)).trans y1
                have HTK := Aside0.mk (takeE_succ part j hltj)
                generalize rdE part j = x at y0 y1 HTK
                obtain ⟨ek, ev⟩ := x
                simp only at y0 y1
                have HTL9 := Aside0.mk (show (part.take j).length ≤ 2000 by have := HPL.out; rw [List.length_take]; omega)
                generalize part.take j = pj at HT HTK HTL9
                have HT := Aside0.mk (TE.of (xc := #[.int .i64 ek, .int .i64 ev]) (HT.out.alloc (.cells #[.int .i64 ek, .int .i64 ev] 140)) (heap_alloc_new wr _))
                have HSP := Aside0.mk (fun (z : World) (h1 : z.heap[g4]? = some (.cells #[.bool bb, vA, .slice none 0 0, vV] 36 (0, 0))) (h2 : z.heap[wr.heap.size]? = some (.cells #[.int .i64 ek, .int .i64 ev] 140 (0, 0))) => (⟨(blk_cell h1 1).trans rfl, (blk_cell h1 3).trans rfl, (blk_cell h2 0).trans rfl, (blk_cell h2 1).trans rfl⟩ : z.cell? ⟨g4, 1, none⟩ = some (vA) ∧ z.cell? ⟨g4, 3, none⟩ = some (vV) ∧ z.cell? ⟨wr.heap.size, 0, none⟩ = some (.int .i64 ek) ∧ z.cell? ⟨wr.heap.size, 1, none⟩ = some (.int .i64 ev)))
                have K0 := HSP.out _ HT.out.drew.blk HT.out.drew.ex
                have HLX := Aside0.mk (show ((k2 pj).length + 1) * 8 ≤ 140737488355328 by rw [k2_len]; have := HTL9.out; omega)
                have HLY := Aside0.mk (show ((k1 pj).length + 1) * 8 ≤ 140737488355328 by rw [k1_len]; have := HTL9.out; omega)
                go_wp2_with fail
                refine start_ (n := 16) (S := fun w' => w'.cell? ⟨g4, 1, none⟩ = some (vA) ∧ w'.cell? ⟨g4, 3, none⟩ = some (vV) ∧ w'.cell? ⟨wr.heap.size, 0, none⟩ = some (.int .i64 ek) ∧ w'.cell? ⟨wr.heap.size, 1, none⟩ = some (.int .i64 ev)) (ds := [13, 15]) #[false, false, false, false, false, false, false, false, false, false, false, false, false, false, false, false] (by kernel_rfl) rfl rfl K0 (fun hHeld => ?_)
                refine with_tabW listRun_any.tab29 listRun_any.bits29 (fun HT_ HW_ => ?_)
                have HT := Aside0.mk HT.out.drew
                clear K0
                generalize (wr.alloc (.cells #[.int .i64 ek, .int .i64 ev] 140)).drew = W at HT hHeld ⊢
                -- 0: t104 := fieldAddr 36 t14 1 : 0 
                refine pure_ (i := 0) (N := some 104) (v := ?_) (a' := ?_) #[true, false, false, false, false, false, false, false, false, false, false, false, false, false, false, false] rfl rfl (any_of HT_.out (by kernel_rfl)) (fun _ _ _ h => h) (Or.inl ⟨by rfl, ?_⟩) ?_ ?_
                rotate_left
                · intro w'
                  go_simp
                  with_reducible rfl
                rotate_left
                · simp only [Act.put, List.setIfInBounds_toArray, List.set_cons_zero, List.set_cons_succ, i64_w, i32_w]
                  rfl
                -- 2: t106 := fieldAddr 140 t16 1 : 0 
                refine pure_ (i := 2) (N := some 106) (v := ?_) (a' := ?_) #[true, false, true, false, false, false, false, false, false, false, false, false, false, false, false, false] rfl rfl (any_of HT_.out (by kernel_rfl)) (fun _ _ _ h => h) (Or.inl ⟨by rfl, ?_⟩) ?_ ?_
                rotate_left
                · intro w'
                  go_simp
                  with_reducible rfl
                rotate_left
                · simp only [Act.put, List.setIfInBounds_toArray, List.set_cons_zero, List.set_cons_succ, i64_w, i32_w]
                  rfl
                -- 6: t110 := fieldAddr 36 t14 3 : 0 
                refine pure_ (i := 6) (N := some 110) (v := ?_) (a' := ?_) #[true, false, true, false, false, false, true, false, false, false, false, false, false, false, false, false] rfl rfl (any_of HT_.out (by kernel_rfl)) (fun _ _ _ h => h) (Or.inl ⟨by rfl, ?_⟩) ?_ ?_
                rotate_left
                · intro w'
                  go_simp
                  with_reducible rfl
                rotate_left
                · simp only [Act.put, List.setIfInBounds_toArray, List.set_cons_zero, List.set_cons_succ, i64_w, i32_w]
                  rfl
                -- 8: t112 := fieldAddr 140 t16 0 : 0 
                refine pure_ (i := 8) (N := some 112) (v := ?_) (a' := ?_) #[true, false, true, false, false, false, true, false, true, false, false, false, false, false, false, false] rfl rfl (any_of HT_.out (by kernel_rfl)) (fun _ _ _ h => h) (Or.inl ⟨by rfl, ?_⟩) ?_ ?_
                rotate_left
                · intro w'
                  go_simp
                  with_reducible rfl
                rotate_left
                · simp only [Act.put, List.setIfInBounds_toArray, List.set_cons_zero, List.set_cons_succ, i64_w, i32_w]
                  rfl
                -- 1: t105 := load 33 t104 : 33 
                refine take_ (i := 1) (N := some 105) (v := ?_) (a' := ?_) #[true, true, true, false, false, false, true, false, true, false, false, false, false, false, false, false] rfl rfl (take_ofW HT_.out HW_.out (by kernel_rfl)) (fun _ _ _ h => h) (Or.inl ⟨by rfl, ?_⟩) hHeld ?_ ?_
                rotate_left
                · rintro w' ⟨s0, s1, s2, s3⟩
                  go_simp
                  with_reducible rfl
                rotate_left
                · simp only [Act.put, List.setIfInBounds_toArray, List.set_cons_zero, List.set_cons_succ, i64_w, i32_w]
                  rfl
                -- 3: t107 := load 2 t106 : 2 
                refine take_ (i := 3) (N := some 107) (v := ?_) (a' := ?_) #[true, true, true, true, false, false, true, false, true, false, false, false, false, false, false, false] rfl rfl (take_ofW HT_.out HW_.out (by kernel_rfl)) (fun _ _ _ h => h) (Or.inl ⟨by rfl, ?_⟩) hHeld ?_ ?_
                rotate_left
                · rintro w' ⟨s0, s1, s2, s3⟩
                  go_simp
                  with_reducible rfl
                rotate_left
                · simp only [Act.put, List.setIfInBounds_toArray, List.set_cons_zero, List.set_cons_succ, i64_w, i32_w]
                  rfl
                -- 7: t111 := load 33 t110 : 33 
                refine take_ (i := 7) (N := some 111) (v := ?_) (a' := ?_) #[true, true, true, true, false, false, true, true, true, false, false, false, false, false, false, false] rfl rfl (take_ofW HT_.out HW_.out (by kernel_rfl)) (fun _ _ _ h => h) (Or.inl ⟨by rfl, ?_⟩) hHeld ?_ ?_
                rotate_left
                · rintro w' ⟨s0, s1, s2, s3⟩
                  go_simp
                  with_reducible rfl
                rotate_left
                · simp only [Act.put, List.setIfInBounds_toArray, List.set_cons_zero, List.set_cons_succ, i64_w, i32_w]
                  rfl
                -- 9: t113 := load 2 t112 : 2 
                refine take_ (i := 9) (N := some 113) (v := ?_) (a' := ?_) #[true, true, true, true, false, false, true, true, true, true, false, false, false, false, false, false] rfl rfl (take_ofW HT_.out HW_.out (by kernel_rfl)) (fun _ _ _ h => h) (Or.inl ⟨by rfl, ?_⟩) hHeld ?_ ?_
                rotate_left
                · rintro w' ⟨s0, s1, s2, s3⟩
                  go_simp
                  with_reducible rfl
                rotate_left
                · simp only [Act.put, List.setIfInBounds_toArray, List.set_cons_zero, List.set_cons_succ, i64_w, i32_w]
                  rfl
                refine join_ (σ := (Nat × Nat × Option Addr × Nat × Option Addr × Nat)) 3 #[true, true, true, true, true, true, true, true, true, true, true, true, true, false, false, false] (fun s_ => [(108, .slice (some ⟨s_.1, 0, none⟩) 1 1), (109, .slice s_.2.2.1 ((k2 pj).length + 1) s_.2.2.2.1), (114, .slice (some ⟨s_.2.1, 0, none⟩) 1 1), (115, .slice s_.2.2.2.2.1 ((k1 pj).length + 1) s_.2.2.2.2.2), (116, .pointer (some ⟨g4, 1, none⟩))]) (fun s_ w' => TE w3 w3.heap.size g4 wr.heap.size #[.int .i64 ek, .int .i64 ev] (.bool bb) (.slice none 0 0) vA vV (.slice s_.2.2.1 ((k2 pj).length + 1) s_.2.2.2.1) (.slice s_.2.2.2.2.1 ((k1 pj).length + 1) s_.2.2.2.2.2) (k2 pj ++ [ev]) (k1 pj ++ [ek]) w') ?_ ?_
                rotate_left
                · intro hCont
                  refine two_ (i := 4) (j := 10) (Ni := some 108) (Nj := some 114) #[true, true, true, true, true, false, true, true, true, true, false, false, false, false, false, false] #[true, true, true, true, false, false, true, true, true, true, true, false, false, false, false, false] rfl rfl rfl rfl (two_of HT_.out (by kernel_rfl)) (by decide) (by decide) (fun K hK => ?_) (fun K hK => ?_)
                  · skip
                    refine event_step (v := .slice (some ⟨W.heap.size, 0, none⟩) 1 1) (w1 := W.alloc (.cells #[.int .i64 ev] 2)) (by rfl) (by first | (go_simp; done) | (go_simp; rfl)) ?_
                    have HLA := Aside0.mk (HT.out.lit ev)
                    have HT := Aside0.mk (HT.out.alloc (.cells #[.int .i64 ev] 2))
                    refine hK.out _ _ (HSP.out _ HT.out.blk HT.out.ex) (fun hHeld => ?_)
                    clear hK K
                    refine norm_ (a' := ?_) ?_ ?_
                    rotate_left
                    · show Act.put _ (some 108) _ = _
                      simp only [Act.put, List.setIfInBounds_toArray, List.set_cons_zero, List.set_cons_succ, i64_w, i32_w]
                      rfl
                    refine two_ (i := 5) (j := 10) (Ni := some 109) (Nj := some 114) #[true, true, true, true, true, true, true, true, true, true, false, false, false, false, false, false] #[true, true, true, true, true, false, true, true, true, true, true, false, false, false, false, false] rfl rfl rfl rfl (two_of HT_.out (by kernel_rfl)) (by decide) (by decide) (fun K hK => ?_) (fun K hK => ?_)
                    · skip
                      refine TE.appA (W := (W.alloc (.cells #[.int .i64 ev] 2))) (p := ev) (n := W.heap.size) HT.out HLA.out (by rfl) (.tmp 105) (.tmp 108) 33 (by rfl) Try.underlying33 info2 (by rfl) (by rfl) HLX.out ?_
                      intro AA cA wA hT1 hL1
                      have HT := Aside0.mk hT1
                      clear hT1 hL1
                      refine hK.out _ _ (HSP.out _ HT.out.blk HT.out.ex) (fun hHeld => ?_)
                      clear hK K
                      refine norm_ (a' := ?_) ?_ ?_
                      rotate_left
                      · show Act.put _ (some 109) _ = _
                        simp only [Act.put, List.setIfInBounds_toArray, List.set_cons_zero, List.set_cons_succ, i64_w, i32_w]
                        rfl
                      refine pure_ (i := 12) (N := some 116) (v := ?_) (a' := ?_) #[true, true, true, true, true, true, true, true, true, true, false, false, true, false, false, false] rfl rfl (any_of HT_.out (by kernel_rfl)) (fun _ _ _ h => h) (Or.inl ⟨by rfl, ?_⟩) ?_ ?_
                      rotate_left
                      · intro w'
                        go_simp
                        with_reducible rfl
                      rotate_left
                      · simp only [Act.put, List.setIfInBounds_toArray, List.set_cons_zero, List.set_cons_succ, i64_w, i32_w]
                        rfl
                      refine one_ (i := 10) (N := some 114) #[true, true, true, true, true, true, true, true, true, true, true, false, true, false, false, false] rfl rfl (one_of HT_.out (by kernel_rfl)) (by decide) (fun K hK => ?_)
                      refine event_step (v := .slice (some ⟨wA.heap.size, 0, none⟩) 1 1) (w1 := wA.alloc (.cells #[.int .i64 ek] 2)) (by rfl) (by first | (go_simp; done) | (go_simp; rfl)) ?_
                      have HLV := Aside0.mk (HT.out.lit ek)
                      have HT := Aside0.mk (HT.out.alloc (.cells #[.int .i64 ek] 2))
                      refine hK.out _ _ (HSP.out _ HT.out.blk HT.out.ex) (fun hHeld => ?_)
                      clear hK K
                      refine norm_ (a' := ?_) ?_ ?_
                      rotate_left
                      · show Act.put _ (some 114) _ = _
                        simp only [Act.put, List.setIfInBounds_toArray, List.set_cons_zero, List.set_cons_succ, i64_w, i32_w]
                        rfl
                      refine one_ (i := 11) (N := some 115) #[true, true, true, true, true, true, true, true, true, true, true, true, true, false, false, false] rfl rfl (one_of HT_.out (by kernel_rfl)) (by decide) (fun K hK => ?_)
                      refine TE.appV (W := (wA.alloc (.cells #[.int .i64 ek] 2))) (p := ek) (n := wA.heap.size) HT.out HLV.out (by rfl) (.tmp 111) (.tmp 114) 33 (by rfl) Try.underlying33 info2 (by rfl) (by rfl) HLY.out ?_
                      intro AV cV wV hT1 hL1
                      have HT := Aside0.mk hT1
                      clear hT1 hL1
                      refine hK.out _ _ (HSP.out _ HT.out.blk HT.out.ex) (fun hHeld => ?_)
                      clear hK K
                      refine norm_ (a' := ?_) ?_ ?_
                      rotate_left
                      · show Act.put _ (some 115) _ = _
                        simp only [Act.put, List.setIfInBounds_toArray, List.set_cons_zero, List.set_cons_succ, i64_w, i32_w]
                        rfl
                      exact norm_ (by simp only [putAll, Act.put, List.setIfInBounds_toArray, List.set_cons_zero, List.set_cons_succ]) (hCont (W.heap.size, wA.heap.size, AA, cA, AV, cV) _ HT.out)
                    · skip
                      refine event_step (v := .slice (some ⟨(W.alloc (.cells #[.int .i64 ev] 2)).heap.size, 0, none⟩) 1 1) (w1 := (W.alloc (.cells #[.int .i64 ev] 2)).alloc (.cells #[.int .i64 ek] 2)) (by rfl) (by first | (go_simp; done) | (go_simp; rfl)) ?_
                      have HLV := Aside0.mk (HT.out.lit ek)
                      have HLA := Aside0.mk (HLA.out.alloc (.cells #[.int .i64 ek] 2))
                      have HT := Aside0.mk (HT.out.alloc (.cells #[.int .i64 ek] 2))
                      refine hK.out _ _ (HSP.out _ HT.out.blk HT.out.ex) (fun hHeld => ?_)
                      clear hK K
                      refine norm_ (a' := ?_) ?_ ?_
                      rotate_left
                      · show Act.put _ (some 114) _ = _
                        simp only [Act.put, List.setIfInBounds_toArray, List.set_cons_zero, List.set_cons_succ, i64_w, i32_w]
                        rfl
                      refine one_ (i := 5) (N := some 109) #[true, true, true, true, true, true, true, true, true, true, true, false, false, false, false, false] rfl rfl (one_of HT_.out (by kernel_rfl)) (by decide) (fun K hK => ?_)
                      refine TE.appA (W := ((W.alloc (.cells #[.int .i64 ev] 2)).alloc (.cells #[.int .i64 ek] 2))) (p := ev) (n := W.heap.size) HT.out HLA.out (by rfl) (.tmp 105) (.tmp 108) 33 (by rfl) Try.underlying33 info2 (by rfl) (by rfl) HLX.out ?_
                      intro AA cA wA hT1 hL1
                      have HT := Aside0.mk hT1
                      have HLV := Aside0.mk (hL1 _ _ HLV.out)
                      clear hT1 hL1
                      refine hK.out _ _ (HSP.out _ HT.out.blk HT.out.ex) (fun hHeld => ?_)
                      clear hK K
                      refine norm_ (a' := ?_) ?_ ?_
                      rotate_left
                      · show Act.put _ (some 109) _ = _
                        simp only [Act.put, List.setIfInBounds_toArray, List.set_cons_zero, List.set_cons_succ, i64_w, i32_w]
                        rfl
                      refine pure_ (i := 12) (N := some 116) (v := ?_) (a' := ?_) #[true, true, true, true, true, true, true, true, true, true, true, false, true, false, false, false] rfl rfl (any_of HT_.out (by kernel_rfl)) (fun _ _ _ h => h) (Or.inl ⟨by rfl, ?_⟩) ?_ ?_
                      rotate_left
                      · intro w'
                        go_simp
                        with_reducible rfl
                      rotate_left
                      · simp only [Act.put, List.setIfInBounds_toArray, List.set_cons_zero, List.set_cons_succ, i64_w, i32_w]
                        rfl
                      refine one_ (i := 11) (N := some 115) #[true, true, true, true, true, true, true, true, true, true, true, true, true, false, false, false] rfl rfl (one_of HT_.out (by kernel_rfl)) (by decide) (fun K hK => ?_)
                      refine TE.appV (W := wA) (p := ek) (n := (W.alloc (.cells #[.int .i64 ev] 2)).heap.size) HT.out HLV.out (by rfl) (.tmp 111) (.tmp 114) 33 (by rfl) Try.underlying33 info2 (by rfl) (by rfl) HLY.out ?_
                      intro AV cV wV hT1 hL1
                      have HT := Aside0.mk hT1
                      clear hT1 hL1
                      refine hK.out _ _ (HSP.out _ HT.out.blk HT.out.ex) (fun hHeld => ?_)
                      clear hK K
                      refine norm_ (a' := ?_) ?_ ?_
                      rotate_left
                      · show Act.put _ (some 115) _ = _
                        simp only [Act.put, List.setIfInBounds_toArray, List.set_cons_zero, List.set_cons_succ, i64_w, i32_w]
                        rfl
                      exact norm_ (by simp only [putAll, Act.put, List.setIfInBounds_toArray, List.set_cons_zero, List.set_cons_succ]) (hCont (W.heap.size, (W.alloc (.cells #[.int .i64 ev] 2)).heap.size, AA, cA, AV, cV) _ HT.out)
                  · skip
                    refine event_step (v := .slice (some ⟨W.heap.size, 0, none⟩) 1 1) (w1 := W.alloc (.cells #[.int .i64 ek] 2)) (by rfl) (by first | (go_simp; done) | (go_simp; rfl)) ?_
                    have HLV := Aside0.mk (HT.out.lit ek)
                    have HT := Aside0.mk (HT.out.alloc (.cells #[.int .i64 ek] 2))
                    refine hK.out _ _ (HSP.out _ HT.out.blk HT.out.ex) (fun hHeld => ?_)
                    clear hK K
                    refine norm_ (a' := ?_) ?_ ?_
                    rotate_left
                    · show Act.put _ (some 114) _ = _
                      simp only [Act.put, List.setIfInBounds_toArray, List.set_cons_zero, List.set_cons_succ, i64_w, i32_w]
                      rfl
                    refine one_ (i := 4) (N := some 108) #[true, true, true, true, true, false, true, true, true, true, true, false, false, false, false, false] rfl rfl (one_of HT_.out (by kernel_rfl)) (by decide) (fun K hK => ?_)
                    refine event_step (v := .slice (some ⟨(W.alloc (.cells #[.int .i64 ek] 2)).heap.size, 0, none⟩) 1 1) (w1 := (W.alloc (.cells #[.int .i64 ek] 2)).alloc (.cells #[.int .i64 ev] 2)) (by rfl) (by first | (go_simp; done) | (go_simp; rfl)) ?_
                    have HLA := Aside0.mk (HT.out.lit ev)
                    have HLV := Aside0.mk (HLV.out.alloc (.cells #[.int .i64 ev] 2))
                    have HT := Aside0.mk (HT.out.alloc (.cells #[.int .i64 ev] 2))
                    refine hK.out _ _ (HSP.out _ HT.out.blk HT.out.ex) (fun hHeld => ?_)
                    clear hK K
                    refine norm_ (a' := ?_) ?_ ?_
                    rotate_left
                    · show Act.put _ (some 108) _ = _
                      simp only [Act.put, List.setIfInBounds_toArray, List.set_cons_zero, List.set_cons_succ, i64_w, i32_w]
                      rfl
                    refine one_ (i := 5) (N := some 109) #[true, true, true, true, true, true, true, true, true, true, true, false, false, false, false, false] rfl rfl (one_of HT_.out (by kernel_rfl)) (by decide) (fun K hK => ?_)
                    refine TE.appA (W := ((W.alloc (.cells #[.int .i64 ek] 2)).alloc (.cells #[.int .i64 ev] 2))) (p := ev) (n := (W.alloc (.cells #[.int .i64 ek] 2)).heap.size) HT.out HLA.out (by rfl) (.tmp 105) (.tmp 108) 33 (by rfl) Try.underlying33 info2 (by rfl) (by rfl) HLX.out ?_
                    intro AA cA wA hT1 hL1
                    have HT := Aside0.mk hT1
                    have HLV := Aside0.mk (hL1 _ _ HLV.out)
                    clear hT1 hL1
                    refine hK.out _ _ (HSP.out _ HT.out.blk HT.out.ex) (fun hHeld => ?_)
                    clear hK K
                    refine norm_ (a' := ?_) ?_ ?_
                    rotate_left
                    · show Act.put _ (some 109) _ = _
                      simp only [Act.put, List.setIfInBounds_toArray, List.set_cons_zero, List.set_cons_succ, i64_w, i32_w]
                      rfl
                    refine pure_ (i := 12) (N := some 116) (v := ?_) (a' := ?_) #[true, true, true, true, true, true, true, true, true, true, true, false, true, false, false, false] rfl rfl (any_of HT_.out (by kernel_rfl)) (fun _ _ _ h => h) (Or.inl ⟨by rfl, ?_⟩) ?_ ?_
                    rotate_left
                    · intro w'
                      go_simp
                      with_reducible rfl
                    rotate_left
                    · simp only [Act.put, List.setIfInBounds_toArray, List.set_cons_zero, List.set_cons_succ, i64_w, i32_w]
                      rfl
                    refine one_ (i := 11) (N := some 115) #[true, true, true, true, true, true, true, true, true, true, true, true, true, false, false, false] rfl rfl (one_of HT_.out (by kernel_rfl)) (by decide) (fun K hK => ?_)
                    refine TE.appV (W := wA) (p := ek) (n := W.heap.size) HT.out HLV.out (by rfl) (.tmp 111) (.tmp 114) 33 (by rfl) Try.underlying33 info2 (by rfl) (by rfl) HLY.out ?_
                    intro AV cV wV hT1 hL1
                    have HT := Aside0.mk hT1
                    clear hT1 hL1
                    refine hK.out _ _ (HSP.out _ HT.out.blk HT.out.ex) (fun hHeld => ?_)
                    clear hK K
                    refine norm_ (a' := ?_) ?_ ?_
                    rotate_left
                    · show Act.put _ (some 115) _ = _
                      simp only [Act.put, List.setIfInBounds_toArray, List.set_cons_zero, List.set_cons_succ, i64_w, i32_w]
                      rfl
                    exact norm_ (by simp only [putAll, Act.put, List.setIfInBounds_toArray, List.set_cons_zero, List.set_cons_succ]) (hCont ((W.alloc (.cells #[.int .i64 ek] 2)).heap.size, W.heap.size, AA, cA, AV, cV) _ HT.out)
                · skip
                  rintro ⟨nA, nV, A1_, c1_, A2_, c2_⟩ w_ hT_
                  have HT := Aside0.mk hT_
                  clear hT_
                  simp only [putAll, Act.put, List.setIfInBounds_toArray, List.set_cons_zero, List.set_cons_succ]
                  -- 13: _ := store 33 t116 t109 : 0 
                  refine last_ (i := 13) (N := none) #[true, true, true, true, true, true, true, true, true, true, true, true, true, true, false, false] rfl rfl (one_of HT_.out (by kernel_rfl)) (by decide) (fun K hK => ?_)
                  have z0 := (blk_cell HT.out.blk 1).trans (rfl : _ = some (vA))
                  have f0 := blk_frozen HT.out.blk 1
                  refine skip_ (w1 := w_.setCell ⟨g4, 1, none⟩ (.slice A1_ ((k2 pj).length + 1) c1_)) (by rfl) rfl (by first | (go_simp; done) | (go_simp; rfl)) ?_
                  have HT := Aside0.mk (HT.out.set0 (.slice A1_ ((k2 pj).length + 1) c1_))
                  refine hK.out _ _ ?_
                  clear hK K z0 f0
                  -- 14: t117 := fieldAddr 36 t14 3 : 0 
                  refine pure_ (i := 14) (N := some 117) (v := ?_) (a' := ?_) #[true, true, true, true, true, true, true, true, true, true, true, true, true, true, true, false] rfl rfl (any_of HT_.out (by kernel_rfl)) (fun _ _ _ h => h) (Or.inl ⟨by rfl, ?_⟩) ?_ ?_
                  rotate_left
                  · intro w'
                    go_simp
                    with_reducible rfl
                  rotate_left
                  · simp only [Act.put, List.setIfInBounds_toArray, List.set_cons_zero, List.set_cons_succ, i64_w, i32_w]
                    rfl
                  -- 15: _ := store 33 t117 t115 : 0 
                  refine last_ (i := 15) (N := none) #[true, true, true, true, true, true, true, true, true, true, true, true, true, true, true, true] rfl rfl (one_of HT_.out (by kernel_rfl)) (by decide) (fun K hK => ?_)
                  have z0 := (blk_cell HT.out.blk 3).trans (rfl : _ = some (vV))
                  have f0 := blk_frozen HT.out.blk 3
                  refine skip_ (w1 := (w_.setCell ⟨g4, 1, none⟩ (.slice A1_ ((k2 pj).length + 1) c1_)).setCell ⟨g4, 3, none⟩ (.slice A2_ ((k1 pj).length + 1) c2_)) (by rfl) rfl (by first | (go_simp; done) | (go_simp; rfl)) ?_
                  have HT := Aside0.mk (HT.out.set1 (.slice A2_ ((k1 pj).length + 1) c2_))
                  refine hK.out _ _ ?_
                  clear hK K z0 f0
                  refine done_ (done_of HT_.out (by kernel_rfl)) ?_
                  go_wp2
                  go_roundg (part.length - (j + 1))
                  case measure => have := hqj.out; omega
                  case rel => exact ⟨j + 1, _, _, by omega, ⟨rfl⟩, by go_num, ⟨by rw [HTK.out, k1_snoc, k2_snoc]; exact HT.out.to⟩⟩
              · have hkl : j = part.length := by omega
                subst hkl
                rw [List.take_length] at HT
                obtain ⟨Bv, dv, hv1⟩ := Kd.R_slice HT.out.rA
                obtain ⟨Ba, da, hv2⟩ := Kd.R_slice HT.out.rV
                rw [k2_len] at hv1
                rw [k1_len] at hv2
                subst hv1; subst hv2
                have x0 := (blk_cell HT.out.blk 0).trans (rfl : _ = some (Value.bool bb))
                have x1 := (blk_cell HT.out.blk 1).trans (rfl : _ = some (Value.slice Bv part.length dv))
                have x2 := (blk_cell HT.out.blk 2).trans (rfl : _ = some (Value.slice none 0 0))
                have x3 := (blk_cell HT.out.blk 3).trans (rfl : _ = some (Value.slice Ba part.length da))
                have HRA := Aside0.mk (Kd.R_mono (Kd.R_lower (Kd.R_bound HT.out.rA) HB.out.size) (ok' := fun q => w3.heap.size ≤ q) (fun q hq => hq.2.1))
                have HRV := Aside0.mk (Kd.R_mono (Kd.R_lower (Kd.R_bound HT.out.rV) HB.out.size) (ok' := fun q => w3.heap.size ≤ q) (fun q hq => hq.2.1))
                have HOK := Aside0.mk (show ∀ q : Nat, w3.heap.size ≤ q → some q ≠ u9.ownBlock from fun q hq hk => absurd (Kd.R_lt HR.out q hk.symm) (by omega))
                have HR := Aside0.mk (Kd.R_below HR.out HT.out.bel)
                have HW := Aside0.mk (HW.out.below HT.out.bel)
                have HLR := Aside0.mk (Kd.R_below HLR.out HT.out.bel)
                have B8 := Aside0.mk (blk_below B8.out HT.out.bel)
                have HB := Aside0.mk (below_then HB.out HB.out.size HT.out.bel)
                have HBB := Aside0.mk (show rdL part = ⟨bb, k2 part, [], k1 part⟩ by unfold rdL; rw [HBV.out])
                go_wp2_with ((with_reducible refine gate_builtin (b := .append) (xs := #[.tmp 119, .tmp 121]) rfl ?_); at_builtin; refine Kd.R_append k36 (w0 := w) (W := wr) w.heap.size rfl (.tmp 119) (.tmp 121) 29 36 _ 80 rfl Try.underlying29 info36 rfl (by decide) (by decide) _ acc (rdL part) [.bool bb, .slice Bv part.length dv, .slice none 0 0, .slice Ba part.length da] (fun _ => True) (fun q => w3.heap.size ≤ q) rfl ?aX ?aP ?aK (fun _ _ => trivial) HR.out HB.out HB.out.size HAL.out ?_; (case aX => first | (go_simp; done) | (go_simp; rfl)); (case aP => rw [HBB.out]; exact k36_mkM _ _ _ ⟨bb, k2 part, [], k1 part⟩ HRA.out (Kd.R_nil _ _ _ _ _) HRV.out); (case aK => exact (fun q hq => ⟨trivial, HOK.out q hq⟩)); intro v1_ w4 hR1 hB1 hg1 hat1; have HW := Aside0.mk (HW.out.grown HR.out hg1 (by decide) (by decide)); have B8 := Aside0.mk (blk_grown B8.out hg1 (Kd.R_ne HR.out B8.out (show (36 : Nat) ≠ 132 by decide))); have HLR := Aside0.mk (Kd.R_over' HLR.out (Kd.R_typed HR.out) (by decide) hg1); have HR := Aside0.mk hR1; have HB := Aside0.mk hB1; clear hR1 hB1 hg1 hat1)
                go_roundg (l.length - (k + 1))
                case measure => have := hq.out; omega
                case rel => exact ⟨k + 1, acc ++ [rdL part], cur, trs, by omega, ⟨rfl⟩, by go_num, HR, HW, ⟨HA2.out, HA.out.2.1, HA.out.2.2.1, by have := HA.out.2.2.2.1; omega, by have := HA.out.2.2.2.2.1; simp; omega, HA.out.2.2.2.2.2⟩, B8, HLR, HB⟩
          · have t0 : (s0 == 0) = false := beq_eq_false_iff_ne.2 (by simp only at e0; omega)
            have t1 : (s0 == 1) = false := beq_eq_false_iff_ne.2 (by simp only at e0; omega)
            have t6 : (s0 == 6) = true := beq_iff_eq.2 e0
            have HA2 := Aside0.mk (show acc ++ ansL (l.drop (k + 1)) (cur.filter (pt s3 s4 true)) = ansL l (isort es) by have h := HA.out.1; rw [HD.out] at h; simp only [ansL] at h; rw [if_neg (by simp only at e0 ⊢; omega), if_neg (by simp only at e0 ⊢; omega), if_pos (by exact e0)] at h; exact h)
            have HN := Aside0.mk (next_clr HA.out.2.1 ⟨#[108]⟩ s3 s4)
            have HKB2 := Aside0.mk (show KB (cur.filter (pt s3 s4 true)) from HA.out.2.2.2.2.2.filter _)
            clear e0
            go_wp2_with (go_at_call 65; refine (listClr_any n8 w.heap.size w.heap.size _ trs _ s3 s4 w _ B8.out HW.out HB.out HTL2.out).mono ?_; rintro e_ w3 ⟨rfl, h1, h2, h3⟩; have B8 := Aside0.mk (h2.blk B8.out (by decide) (by decide)); have HR := Aside0.mk (h2.R HR.out (by decide)); have HLR := Aside0.mk (h2.R HLR.out (by decide)); have HB := Aside0.mk h3; have HW := Aside0.mk h1; clear h1 h2 h3)
            go_roundg (l.length - (k + 1))
            case measure => have := hq.out; omega
            case rel => exact ⟨k + 1, acc, _, _, by omega, ⟨rfl⟩, by go_num, HR, HW, ⟨HA2.out, HN.out, Tr_snoc HA.out.2.2.1 (.inr ⟨_, _, _, rfl⟩), by have := HA.out.2.2.2.1; simp; omega, by have := HA.out.2.2.2.2.1; omega, HKB2.out⟩, B8, HLR, HB⟩
        · have hkl : k = l.length := by omega
          subst hkl
          go_wp2
          go_ret
          exact ⟨_, rfl, by have h := HA.out.1; rw [List.drop_length] at h; simp only [ansL, List.append_nil] at h; rw [← h]; exact HR.out, HB.out⟩
end Go.Proofs.Ytoigekmdicepnaa
