/- Contract: a part of an ordered list of the reference. -/
import Derived.Test.YtoigekmdicepnaaUe
import Derived.Test.YtoigekmdicepnaaUc
set_option linter.unusedVariables false
set_option linter.unusedSimpArgs false
namespace Go.Proofs.Ytoigekmdicepnaa
open Go.RowKit Go.Proofs.YtoigekmdicepnaaW.PrintWords Go.Proofs.YtoigekmdicepnaaW.PrintLast Go.Proofs.YtoigekmdicepnaaW.PrintMore
open Go.Proofs.Ytoigekmdicepnaa.Ord (E2 ins isort Tx inR tx1 replay Asc Down addF)
def pt (lo hi : Int) (b : Bool) (x : E2) : Bool := inR lo hi x.1 != b
theorem ptT {lo hi : Int} {b : Bool} {x : E2} {r : Bool} (h : inR lo hi x.1 = r) : pt lo hi b x = (r != b) := by unfold pt; rw [h]
def statePart_any.T6 : Bool × List (List Nat × List Nat) := (true, [([], []), ([0], [0]), ([], []), ([2], [2]), ([1, 3], [1, 3]), ([], []), ([5], [5]), ([], []), ([7], [7]), ([], []), ([8, 9], [8, 9]), ([10], [10]), ([11], [11]), ([6, 12, 4], [6, 12]), ([0, 1, 2, 3, 4, 5, 6], []), ([14, 4, 13, 0, 1, 2, 3, 4, 5, 6], [4, 14]), ([0, 1, 2, 3, 4, 5, 6, 7, 8, 9, 10, 11, 12, 13, 14, 15], []), ([16, 13, 15, 0, 1, 2, 3, 4, 5, 6, 7, 8, 9, 10, 11, 12, 13, 14, 15], [13, 16])])
def statePart_any.B6 : List Nat := [0, 1, 0, 4, 15, 0, 32, 0, 128, 0, 896, 1920, 3968, 8191, 127, 32767, 65535, 131071]
theorem statePart_any.tab6 : rtab .any (opsOf Try.f27 6) = statePart_any.T6 := by kernel_rfl
theorem statePart_any.bits6 : waitsOk statePart_any.T6.2 statePart_any.B6 = true := by kernel_rfl
set_option maxRecDepth 100000 in
set_option maxHeartbeats 8000000 in
theorem statePart_any (A1 : Option Addr) (c1 : Nat) (A2 : Option Addr) (c2 : Nat) (l : List E2) (lo hi : Int) (b : Bool) (w : World) (h : LS w A1 c1 A2 c2 l) (hl : l.length ≤ 1000000) :
    Calls Try.prog 27 #[.agg #[.slice A1 l.length c1, .slice A2 l.length c2], .int .i64 lo, .int .i64 hi, .bool b] w fun e w' => ∃ B1 d1 B2 d2, e = .returned (.agg #[.slice B1 (l.filter (pt lo hi b)).length d1, .slice B2 (l.filter (pt lo hi b)).length d2]) ∧ LR w' w.heap.size B1 d1 B2 d2 (l.filter (pt lo hi b)) ∧ Below w.heap.size w w' := by
  have HLS := Aside0.mk h
  have HL := Aside0.mk hl
  clear h hl
  go_enter Try.func27, Try.ntmps27
  go_wp2_with fail
  have HT0 := Aside0.mk (show TC ((w.alloc (.cells #[.slice A1 l.length c1, .slice A2 l.length c2] 56)).alloc (.cells #[.slice none 0 0, .slice none 0 0] 56)) ((w.alloc (.cells #[.slice A1 l.length c1, .slice A2 l.length c2] 56)).alloc (.cells #[.slice none 0 0, .slice none 0 0] 56)).heap.size (w.heap.size + 1 + 1) (.slice none 0 0) (.slice none 0 0) (.slice none 0 0) (.slice none 0 0) [] [] (((w.alloc (.cells #[.slice A1 l.length c1, .slice A2 l.length c2] 56)).alloc (.cells #[.slice none 0 0, .slice none 0 0] 56)).alloc (.cells #[.slice none 0 0, .slice none 0 0] 56)) from ⟨by have h := heap_alloc_new ((w.alloc (.cells #[.slice A1 l.length c1, .slice A2 l.length c2] 56)).alloc (.cells #[.slice none 0 0, .slice none 0 0] 56)) (.cells #[.slice none 0 0, .slice none 0 0] 56); rw [World.size_alloc, World.size_alloc] at h; exact h, Kd.R_nil _ _ _ _ _, Kd.R_nil _ _ _ _ _, below_alloc (Below.refl _ _) _, by rw [World.size_alloc, World.size_alloc]; exact Nat.le_refl _⟩)
  have HW3 := Aside0.mk (show Below w.heap.size w ((w.alloc (.cells #[.slice A1 l.length c1, .slice A2 l.length c2] 56)).alloc (.cells #[.slice none 0 0, .slice none 0 0] 56)) from below_alloc (below_alloc (Below.refl _ _) _) _)
  have B3 := Aside0.mk (show ((w.alloc (.cells #[.slice A1 l.length c1, .slice A2 l.length c2] 56)).alloc (.cells #[.slice none 0 0, .slice none 0 0] 56)).heap[w.heap.size]? = some (.cells #[.slice A1 l.length c1, .slice A2 l.length c2] 56 (0, 0)) from blk_alloc (heap_alloc_new w _) _)
  have B6 := Aside0.mk (show ((w.alloc (.cells #[.slice A1 l.length c1, .slice A2 l.length c2] 56)).alloc (.cells #[.slice none 0 0, .slice none 0 0] 56)).heap[w.heap.size + 1]? = some (.cells #[.slice none 0 0, .slice none 0 0] 56 (0, 0)) by have h := heap_alloc_new (w.alloc (.cells #[.slice A1 l.length c1, .slice A2 l.length c2] 56)) (.cells #[.slice none 0 0, .slice none 0 0] 56); rw [World.size_alloc] at h; exact h)
  have HLS := Aside0.mk (HLS.out.below HW3.out)
  obtain ⟨w3, hw3⟩ : ∃ w3, w3 = ((w.alloc (.cells #[.slice A1 l.length c1, .slice A2 l.length c2] 56)).alloc (.cells #[.slice none 0 0, .slice none 0 0] 56)) := ⟨_, rfl⟩
  rw [← hw3] at HT0 HW3 B3 B6 HLS ⊢
  obtain ⟨g, hg⟩ : ∃ g, g = w.heap.size + 1 + 1 := ⟨_, rfl⟩
  rw [← hg] at HT0 ⊢
  clear hw3 hg
  have B31 := Aside0.mk ((blk_cell B3.out 1).trans (rfl : _ = some (Value.slice A2 l.length c2)))
  go_loopg [15] l.length (fun kq v15 w' => ∃ (i : Nat) (acc : List E2) (vA vV : Value), i ≤ l.length ∧ Aside0 (kq = l.length - i) ∧ v15 = .int .i64 i ∧ Aside0 ((l.take i).filter (pt lo hi b) = acc) ∧ Aside0 (TC w3 w3.heap.size g vA vV vA vV (k1 acc) (k2 acc) w'))
  case atStart => exact ⟨0, [], _, _, Nat.zero_le _, ⟨by simp⟩, rfl, ⟨rfl⟩, HT0⟩
  case round =>
    clear HT0
    obtain ⟨i, acc, vA, vV, hi_, hq, rfl, HFA, HT⟩ := hrel
    have q1 : (l.length : Int) ≤ 1000000 := by have := HL.out; omega
    have HAL := Aside0.mk (show acc.length ≤ 2000000 by have h := List.length_filter_le (pt lo hi b) (l.take i); rw [HFA.out, List.length_take] at h; have := HL.out; omega)
    by_cases hlt : i < l.length
    · obtain ⟨ad, av, ea, ev, y0, y1⟩ := HLS.out.at i hlt
      subst ea; subst ev
      have HFS := Aside0.mk (filt_succ (p := pt lo hi b) l i hlt)
      generalize rdE l i = x at y0 y1 HFS
      have Y0 := Aside0.mk y0
      have Y1 := Aside0.mk y1
      rw [HFA.out] at HFS
      have s2 := (HT.out.bel.cell (World.block_lt_of_cell? w3 _ Y0.out)).trans Y0.out
      clear y0 y1
      by_cases h1 : lo ≤ x.1
      · by_cases h2 : x.1 < hi
        · cases b with
          | true =>
            have HFS := Aside0.mk (show (l.take (i + 1)).filter (pt lo hi true) = acc by rw [HFS.out, if_neg (show ¬ pt lo hi true x = true by rw [ptT (inR_t h1 h2)]; decide)])
            go_wp2
            go_roundg (l.length - (i + 1))
            case measure => have := hq.out; omega
            case rel => exact ⟨i + 1, acc, vA, vV, by omega, ⟨rfl⟩, by go_num, HFS, HT⟩
          | false =>
            have HFS := Aside0.mk (show (l.take (i + 1)).filter (pt lo hi false) = acc ++ [x] by rw [HFS.out, if_pos (show pt lo hi false x = true by rw [ptT (inR_t h1 h2)]; rfl)])
            go_wp2_with fail
            have HSP := Aside0.mk (fun (z : World) (h1 : z.heap[g]? = some (.cells #[vA, vV] 56 (0, 0))) (h2 : Below w3.heap.size w3 z) => (⟨(blk_cell h1 0).trans rfl, (blk_cell h1 1).trans rfl, (h2.cell (World.block_lt_of_cell? w3 _ B31.out)).trans B31.out, (h2.cell (World.block_lt_of_cell? w3 _ Y1.out)).trans Y1.out⟩ : z.cell? ⟨g, 0, none⟩ = some (vA) ∧ z.cell? ⟨g, 1, none⟩ = some (vV) ∧ z.cell? ⟨w.heap.size, 1, none⟩ = some (.slice (some av) l.length c2) ∧ z.cell? (av.add i) = some (.int .i64 x.2)))
            have K0 := HSP.out _ HT.out.drew.blk HT.out.drew.bel
            have HLX := Aside0.mk (show ((k1 acc).length + 1) * 8 ≤ 140737488355328 by rw [k1_len]; have := HAL.out; omega)
            have HLY := Aside0.mk (show ((k2 acc).length + 1) * 8 ≤ 140737488355328 by rw [k2_len]; have := HAL.out; omega)
            refine start_ (n := 18) (S := fun w' => w'.cell? ⟨g, 0, none⟩ = some (vA) ∧ w'.cell? ⟨g, 1, none⟩ = some (vV) ∧ w'.cell? ⟨w.heap.size, 1, none⟩ = some (.slice (some av) l.length c2) ∧ w'.cell? (av.add i) = some (.int .i64 x.2)) (ds := [15, 17]) #[false, false, false, false, false, false, false, false, false, false, false, false, false, false, false, false, false, false] (by kernel_rfl) rfl rfl K0 (fun hHeld => ?_)
            refine with_tabW statePart_any.tab6 statePart_any.bits6 (fun HT_ HW_ => ?_)
            have HT := Aside0.mk HT.out.drew
            clear K0
            generalize (wr).drew = W at HT hHeld ⊢
            -- 0: t30 := fieldAddr 56 t9 0 : 0 
            refine pure_ (i := 0) (N := some 30) (v := ?_) (a' := ?_) #[true, false, false, false, false, false, false, false, false, false, false, false, false, false, false, false, false, false] rfl rfl (any_of HT_.out (by kernel_rfl)) (fun _ _ _ h => h) (Or.inl ⟨by rfl, ?_⟩) ?_ ?_
            rotate_left
            · intro w'
              go_simp
              with_reducible rfl
            rotate_left
            · simp only [Act.put, List.setIfInBounds_toArray, List.set_cons_zero, List.set_cons_succ, i64_w, i32_w]
              rfl
            -- 2: t32 := move t11 : 2 
            refine pure_ (i := 2) (N := some 32) (v := ?_) (a' := ?_) #[true, false, true, false, false, false, false, false, false, false, false, false, false, false, false, false, false, false] rfl rfl (any_of HT_.out (by kernel_rfl)) (fun _ _ _ h => h) (Or.inl ⟨by rfl, ?_⟩) ?_ ?_
            rotate_left
            · intro w'
              go_simp
              with_reducible rfl
            rotate_left
            · simp only [Act.put, List.setIfInBounds_toArray, List.set_cons_zero, List.set_cons_succ, i64_w, i32_w]
              rfl
            -- 5: t35 := fieldAddr 56 t9 1 : 0 
            refine pure_ (i := 5) (N := some 35) (v := ?_) (a' := ?_) #[true, false, true, false, false, true, false, false, false, false, false, false, false, false, false, false, false, false] rfl rfl (any_of HT_.out (by kernel_rfl)) (fun _ _ _ h => h) (Or.inl ⟨by rfl, ?_⟩) ?_ ?_
            rotate_left
            · intro w'
              go_simp
              with_reducible rfl
            rotate_left
            · simp only [Act.put, List.setIfInBounds_toArray, List.set_cons_zero, List.set_cons_succ, i64_w, i32_w]
              rfl
            -- 7: t37 := fieldAddr 56 t4 1 : 0 
            refine pure_ (i := 7) (N := some 37) (v := ?_) (a' := ?_) #[true, false, true, false, false, true, false, true, false, false, false, false, false, false, false, false, false, false] rfl rfl (any_of HT_.out (by kernel_rfl)) (fun _ _ _ h => h) (Or.inl ⟨by rfl, ?_⟩) ?_ ?_
            rotate_left
            · intro w'
              go_simp
              with_reducible rfl
            rotate_left
            · simp only [Act.put, List.setIfInBounds_toArray, List.set_cons_zero, List.set_cons_succ, i64_w, i32_w]
              rfl
            -- 9: t39 := move t10 : 3 
            refine pure_ (i := 9) (N := some 39) (v := ?_) (a' := ?_) #[true, false, true, false, false, true, false, true, false, true, false, false, false, false, false, false, false, false] rfl rfl (any_of HT_.out (by kernel_rfl)) (fun _ _ _ h => h) (Or.inl ⟨by rfl, ?_⟩) ?_ ?_
            rotate_left
            · intro w'
              go_simp
              with_reducible rfl
            rotate_left
            · simp only [Act.put, List.setIfInBounds_toArray, List.set_cons_zero, List.set_cons_succ, i64_w, i32_w]
              rfl
            -- 1: t31 := load 33 t30 : 33 
            refine take_ (i := 1) (N := some 31) (v := ?_) (a' := ?_) #[true, true, true, false, false, true, false, true, false, true, false, false, false, false, false, false, false, false] rfl rfl (take_ofW HT_.out HW_.out (by kernel_rfl)) (fun _ _ _ h => h) (Or.inl ⟨by rfl, ?_⟩) hHeld ?_ ?_
            rotate_left
            · rintro w' ⟨s0, s1, s2, s3⟩
              go_simp
              with_reducible rfl
            rotate_left
            · simp only [Act.put, List.setIfInBounds_toArray, List.set_cons_zero, List.set_cons_succ, i64_w, i32_w]
              rfl
            -- 6: t36 := load 33 t35 : 33 
            refine take_ (i := 6) (N := some 36) (v := ?_) (a' := ?_) #[true, true, true, false, false, true, true, true, false, true, false, false, false, false, false, false, false, false] rfl rfl (take_ofW HT_.out HW_.out (by kernel_rfl)) (fun _ _ _ h => h) (Or.inl ⟨by rfl, ?_⟩) hHeld ?_ ?_
            rotate_left
            · rintro w' ⟨s0, s1, s2, s3⟩
              go_simp
              with_reducible rfl
            rotate_left
            · simp only [Act.put, List.setIfInBounds_toArray, List.set_cons_zero, List.set_cons_succ, i64_w, i32_w]
              rfl
            -- 8: t38 := load 33 t37 : 33 
            refine take_ (i := 8) (N := some 38) (v := ?_) (a' := ?_) #[true, true, true, false, false, true, true, true, true, true, false, false, false, false, false, false, false, false] rfl rfl (take_ofW HT_.out HW_.out (by kernel_rfl)) (fun _ _ _ h => h) (Or.inl ⟨by rfl, ?_⟩) hHeld ?_ ?_
            rotate_left
            · rintro w' ⟨s0, s1, s2, s3⟩
              go_simp
              with_reducible rfl
            rotate_left
            · simp only [Act.put, List.setIfInBounds_toArray, List.set_cons_zero, List.set_cons_succ, i64_w, i32_w]
              rfl
            -- 10: t40 := indexAddr 33 t38 t39 : 0 
            refine pure_ (i := 10) (N := some 40) (v := ?_) (a' := ?_) #[true, true, true, false, false, true, true, true, true, true, true, false, false, false, false, false, false, false] rfl rfl (any_of HT_.out (by kernel_rfl)) (fun _ _ _ h => h) (Or.inl ⟨by rfl, ?_⟩) ?_ ?_
            rotate_left
            · intro w'
              go_simp
              with_reducible rfl
            rotate_left
            · simp only [Act.put, List.setIfInBounds_toArray, List.set_cons_zero, List.set_cons_succ, i64_w, i32_w]
              rfl
            -- 11: t41 := load 2 t40 : 2 
            refine take_ (i := 11) (N := some 41) (v := ?_) (a' := ?_) #[true, true, true, false, false, true, true, true, true, true, true, true, false, false, false, false, false, false] rfl rfl (take_ofW HT_.out HW_.out (by kernel_rfl)) (fun _ _ _ h => h) (Or.inl ⟨by rfl, ?_⟩) hHeld ?_ ?_
            rotate_left
            · rintro w' ⟨s0, s1, s2, s3⟩
              go_simp
              with_reducible rfl
            rotate_left
            · simp only [Act.put, List.setIfInBounds_toArray, List.set_cons_zero, List.set_cons_succ, i64_w, i32_w]
              rfl
            refine join_ (σ := (Nat × Nat × Option Addr × Nat × Option Addr × Nat)) 3 #[true, true, true, true, true, true, true, true, true, true, true, true, true, true, true, false, false, false] (fun s_ => [(33, .slice (some ⟨s_.1, 0, none⟩) 1 1), (34, .slice s_.2.2.1 ((k1 acc).length + 1) s_.2.2.2.1), (42, .slice (some ⟨s_.2.1, 0, none⟩) 1 1), (43, .slice s_.2.2.2.2.1 ((k2 acc).length + 1) s_.2.2.2.2.2), (44, .pointer (some ⟨g, 0, none⟩))]) (fun s_ w' => TC w3 w3.heap.size g vA vV (.slice s_.2.2.1 ((k1 acc).length + 1) s_.2.2.2.1) (.slice s_.2.2.2.2.1 ((k2 acc).length + 1) s_.2.2.2.2.2) (k1 acc ++ [x.1]) (k2 acc ++ [x.2]) w') ?_ ?_
            rotate_left
            · intro hCont
              refine two_ (i := 3) (j := 12) (Ni := some 33) (Nj := some 42) #[true, true, true, true, false, true, true, true, true, true, true, true, false, false, false, false, false, false] #[true, true, true, false, false, true, true, true, true, true, true, true, true, false, false, false, false, false] rfl rfl rfl rfl (two_of HT_.out (by kernel_rfl)) (by decide) (by decide) (fun K hK => ?_) (fun K hK => ?_)
              · skip
                refine event_step (v := .slice (some ⟨W.heap.size, 0, none⟩) 1 1) (w1 := W.alloc (.cells #[.int .i64 x.1] 2)) (by rfl) (by first | (go_simp; done) | (go_simp; rfl)) ?_
                have HLA := Aside0.mk (HT.out.lit x.1)
                have HT := Aside0.mk (HT.out.alloc (.cells #[.int .i64 x.1] 2))
                refine hK.out _ _ (HSP.out _ HT.out.blk HT.out.bel) (fun hHeld => ?_)
                clear hK K
                refine norm_ (a' := ?_) ?_ ?_
                rotate_left
                · show Act.put _ (some 33) _ = _
                  simp only [Act.put, List.setIfInBounds_toArray, List.set_cons_zero, List.set_cons_succ, i64_w, i32_w]
                  rfl
                refine two_ (i := 4) (j := 12) (Ni := some 34) (Nj := some 42) #[true, true, true, true, true, true, true, true, true, true, true, true, false, false, false, false, false, false] #[true, true, true, true, false, true, true, true, true, true, true, true, true, false, false, false, false, false] rfl rfl rfl rfl (two_of HT_.out (by kernel_rfl)) (by decide) (by decide) (fun K hK => ?_) (fun K hK => ?_)
                · skip
                  refine TC.appA (W := (W.alloc (.cells #[.int .i64 x.1] 2))) (p := x.1) (n := W.heap.size) HT.out HLA.out (by rfl) (.tmp 31) (.tmp 33) 33 (by rfl) Try.underlying33 info2 (by rfl) (by rfl) HLX.out ?_
                  intro AA cA wA hT1 hL1
                  have HT := Aside0.mk hT1
                  clear hT1 hL1
                  refine hK.out _ _ (HSP.out _ HT.out.blk HT.out.bel) (fun hHeld => ?_)
                  clear hK K
                  refine norm_ (a' := ?_) ?_ ?_
                  rotate_left
                  · show Act.put _ (some 34) _ = _
                    simp only [Act.put, List.setIfInBounds_toArray, List.set_cons_zero, List.set_cons_succ, i64_w, i32_w]
                    rfl
                  refine pure_ (i := 14) (N := some 44) (v := ?_) (a' := ?_) #[true, true, true, true, true, true, true, true, true, true, true, true, false, false, true, false, false, false] rfl rfl (any_of HT_.out (by kernel_rfl)) (fun _ _ _ h => h) (Or.inl ⟨by rfl, ?_⟩) ?_ ?_
                  rotate_left
                  · intro w'
                    go_simp
                    with_reducible rfl
                  rotate_left
                  · simp only [Act.put, List.setIfInBounds_toArray, List.set_cons_zero, List.set_cons_succ, i64_w, i32_w]
                    rfl
                  refine one_ (i := 12) (N := some 42) #[true, true, true, true, true, true, true, true, true, true, true, true, true, false, true, false, false, false] rfl rfl (one_of HT_.out (by kernel_rfl)) (by decide) (fun K hK => ?_)
                  refine event_step (v := .slice (some ⟨wA.heap.size, 0, none⟩) 1 1) (w1 := wA.alloc (.cells #[.int .i64 x.2] 2)) (by rfl) (by first | (go_simp; done) | (go_simp; rfl)) ?_
                  have HLV := Aside0.mk (HT.out.lit x.2)
                  have HT := Aside0.mk (HT.out.alloc (.cells #[.int .i64 x.2] 2))
                  refine hK.out _ _ (HSP.out _ HT.out.blk HT.out.bel) (fun hHeld => ?_)
                  clear hK K
                  refine norm_ (a' := ?_) ?_ ?_
                  rotate_left
                  · show Act.put _ (some 42) _ = _
                    simp only [Act.put, List.setIfInBounds_toArray, List.set_cons_zero, List.set_cons_succ, i64_w, i32_w]
                    rfl
                  refine one_ (i := 13) (N := some 43) #[true, true, true, true, true, true, true, true, true, true, true, true, true, true, true, false, false, false] rfl rfl (one_of HT_.out (by kernel_rfl)) (by decide) (fun K hK => ?_)
                  refine TC.appV (W := (wA.alloc (.cells #[.int .i64 x.2] 2))) (p := x.2) (n := wA.heap.size) HT.out HLV.out (by rfl) (.tmp 36) (.tmp 42) 33 (by rfl) Try.underlying33 info2 (by rfl) (by rfl) HLY.out ?_
                  intro AV cV wV hT1 hL1
                  have HT := Aside0.mk hT1
                  clear hT1 hL1
                  refine hK.out _ _ (HSP.out _ HT.out.blk HT.out.bel) (fun hHeld => ?_)
                  clear hK K
                  refine norm_ (a' := ?_) ?_ ?_
                  rotate_left
                  · show Act.put _ (some 43) _ = _
                    simp only [Act.put, List.setIfInBounds_toArray, List.set_cons_zero, List.set_cons_succ, i64_w, i32_w]
                    rfl
                  exact norm_ (by simp only [putAll, Act.put, List.setIfInBounds_toArray, List.set_cons_zero, List.set_cons_succ]) (hCont (W.heap.size, wA.heap.size, AA, cA, AV, cV) _ HT.out)
                · skip
                  refine event_step (v := .slice (some ⟨(W.alloc (.cells #[.int .i64 x.1] 2)).heap.size, 0, none⟩) 1 1) (w1 := (W.alloc (.cells #[.int .i64 x.1] 2)).alloc (.cells #[.int .i64 x.2] 2)) (by rfl) (by first | (go_simp; done) | (go_simp; rfl)) ?_
                  have HLV := Aside0.mk (HT.out.lit x.2)
                  have HLA := Aside0.mk (HLA.out.alloc (.cells #[.int .i64 x.2] 2))
                  have HT := Aside0.mk (HT.out.alloc (.cells #[.int .i64 x.2] 2))
                  refine hK.out _ _ (HSP.out _ HT.out.blk HT.out.bel) (fun hHeld => ?_)
                  clear hK K
                  refine norm_ (a' := ?_) ?_ ?_
                  rotate_left
                  · show Act.put _ (some 42) _ = _
                    simp only [Act.put, List.setIfInBounds_toArray, List.set_cons_zero, List.set_cons_succ, i64_w, i32_w]
                    rfl
                  refine one_ (i := 4) (N := some 34) #[true, true, true, true, true, true, true, true, true, true, true, true, true, false, false, false, false, false] rfl rfl (one_of HT_.out (by kernel_rfl)) (by decide) (fun K hK => ?_)
                  refine TC.appA (W := ((W.alloc (.cells #[.int .i64 x.1] 2)).alloc (.cells #[.int .i64 x.2] 2))) (p := x.1) (n := W.heap.size) HT.out HLA.out (by rfl) (.tmp 31) (.tmp 33) 33 (by rfl) Try.underlying33 info2 (by rfl) (by rfl) HLX.out ?_
                  intro AA cA wA hT1 hL1
                  have HT := Aside0.mk hT1
                  have HLV := Aside0.mk (hL1 _ _ HLV.out)
                  clear hT1 hL1
                  refine hK.out _ _ (HSP.out _ HT.out.blk HT.out.bel) (fun hHeld => ?_)
                  clear hK K
                  refine norm_ (a' := ?_) ?_ ?_
                  rotate_left
                  · show Act.put _ (some 34) _ = _
                    simp only [Act.put, List.setIfInBounds_toArray, List.set_cons_zero, List.set_cons_succ, i64_w, i32_w]
                    rfl
                  refine pure_ (i := 14) (N := some 44) (v := ?_) (a' := ?_) #[true, true, true, true, true, true, true, true, true, true, true, true, true, false, true, false, false, false] rfl rfl (any_of HT_.out (by kernel_rfl)) (fun _ _ _ h => h) (Or.inl ⟨by rfl, ?_⟩) ?_ ?_
                  rotate_left
                  · intro w'
                    go_simp
                    with_reducible rfl
                  rotate_left
                  · simp only [Act.put, List.setIfInBounds_toArray, List.set_cons_zero, List.set_cons_succ, i64_w, i32_w]
                    rfl
                  refine one_ (i := 13) (N := some 43) #[true, true, true, true, true, true, true, true, true, true, true, true, true, true, true, false, false, false] rfl rfl (one_of HT_.out (by kernel_rfl)) (by decide) (fun K hK => ?_)
                  refine TC.appV (W := wA) (p := x.2) (n := (W.alloc (.cells #[.int .i64 x.1] 2)).heap.size) HT.out HLV.out (by rfl) (.tmp 36) (.tmp 42) 33 (by rfl) Try.underlying33 info2 (by rfl) (by rfl) HLY.out ?_
                  intro AV cV wV hT1 hL1
                  have HT := Aside0.mk hT1
                  clear hT1 hL1
                  refine hK.out _ _ (HSP.out _ HT.out.blk HT.out.bel) (fun hHeld => ?_)
                  clear hK K
                  refine norm_ (a' := ?_) ?_ ?_
                  rotate_left
                  · show Act.put _ (some 43) _ = _
                    simp only [Act.put, List.setIfInBounds_toArray, List.set_cons_zero, List.set_cons_succ, i64_w, i32_w]
                    rfl
                  exact norm_ (by simp only [putAll, Act.put, List.setIfInBounds_toArray, List.set_cons_zero, List.set_cons_succ]) (hCont (W.heap.size, (W.alloc (.cells #[.int .i64 x.1] 2)).heap.size, AA, cA, AV, cV) _ HT.out)
              · skip
                refine event_step (v := .slice (some ⟨W.heap.size, 0, none⟩) 1 1) (w1 := W.alloc (.cells #[.int .i64 x.2] 2)) (by rfl) (by first | (go_simp; done) | (go_simp; rfl)) ?_
                have HLV := Aside0.mk (HT.out.lit x.2)
                have HT := Aside0.mk (HT.out.alloc (.cells #[.int .i64 x.2] 2))
                refine hK.out _ _ (HSP.out _ HT.out.blk HT.out.bel) (fun hHeld => ?_)
                clear hK K
                refine norm_ (a' := ?_) ?_ ?_
                rotate_left
                · show Act.put _ (some 42) _ = _
                  simp only [Act.put, List.setIfInBounds_toArray, List.set_cons_zero, List.set_cons_succ, i64_w, i32_w]
                  rfl
                refine one_ (i := 3) (N := some 33) #[true, true, true, true, false, true, true, true, true, true, true, true, true, false, false, false, false, false] rfl rfl (one_of HT_.out (by kernel_rfl)) (by decide) (fun K hK => ?_)
                refine event_step (v := .slice (some ⟨(W.alloc (.cells #[.int .i64 x.2] 2)).heap.size, 0, none⟩) 1 1) (w1 := (W.alloc (.cells #[.int .i64 x.2] 2)).alloc (.cells #[.int .i64 x.1] 2)) (by rfl) (by first | (go_simp; done) | (go_simp; rfl)) ?_
                have HLA := Aside0.mk (HT.out.lit x.1)
                have HLV := Aside0.mk (HLV.out.alloc (.cells #[.int .i64 x.1] 2))
                have HT := Aside0.mk (HT.out.alloc (.cells #[.int .i64 x.1] 2))
                refine hK.out _ _ (HSP.out _ HT.out.blk HT.out.bel) (fun hHeld => ?_)
                clear hK K
                refine norm_ (a' := ?_) ?_ ?_
                rotate_left
                · show Act.put _ (some 33) _ = _
                  simp only [Act.put, List.setIfInBounds_toArray, List.set_cons_zero, List.set_cons_succ, i64_w, i32_w]
                  rfl
                refine one_ (i := 4) (N := some 34) #[true, true, true, true, true, true, true, true, true, true, true, true, true, false, false, false, false, false] rfl rfl (one_of HT_.out (by kernel_rfl)) (by decide) (fun K hK => ?_)
                refine TC.appA (W := ((W.alloc (.cells #[.int .i64 x.2] 2)).alloc (.cells #[.int .i64 x.1] 2))) (p := x.1) (n := (W.alloc (.cells #[.int .i64 x.2] 2)).heap.size) HT.out HLA.out (by rfl) (.tmp 31) (.tmp 33) 33 (by rfl) Try.underlying33 info2 (by rfl) (by rfl) HLX.out ?_
                intro AA cA wA hT1 hL1
                have HT := Aside0.mk hT1
                have HLV := Aside0.mk (hL1 _ _ HLV.out)
                clear hT1 hL1
                refine hK.out _ _ (HSP.out _ HT.out.blk HT.out.bel) (fun hHeld => ?_)
                clear hK K
                refine norm_ (a' := ?_) ?_ ?_
                rotate_left
                · show Act.put _ (some 34) _ = _
                  simp only [Act.put, List.setIfInBounds_toArray, List.set_cons_zero, List.set_cons_succ, i64_w, i32_w]
                  rfl
                refine pure_ (i := 14) (N := some 44) (v := ?_) (a' := ?_) #[true, true, true, true, true, true, true, true, true, true, true, true, true, false, true, false, false, false] rfl rfl (any_of HT_.out (by kernel_rfl)) (fun _ _ _ h => h) (Or.inl ⟨by rfl, ?_⟩) ?_ ?_
                rotate_left
                · intro w'
                  go_simp
                  with_reducible rfl
                rotate_left
                · simp only [Act.put, List.setIfInBounds_toArray, List.set_cons_zero, List.set_cons_succ, i64_w, i32_w]
                  rfl
                refine one_ (i := 13) (N := some 43) #[true, true, true, true, true, true, true, true, true, true, true, true, true, true, true, false, false, false] rfl rfl (one_of HT_.out (by kernel_rfl)) (by decide) (fun K hK => ?_)
                refine TC.appV (W := wA) (p := x.2) (n := W.heap.size) HT.out HLV.out (by rfl) (.tmp 36) (.tmp 42) 33 (by rfl) Try.underlying33 info2 (by rfl) (by rfl) HLY.out ?_
                intro AV cV wV hT1 hL1
                have HT := Aside0.mk hT1
                clear hT1 hL1
                refine hK.out _ _ (HSP.out _ HT.out.blk HT.out.bel) (fun hHeld => ?_)
                clear hK K
                refine norm_ (a' := ?_) ?_ ?_
                rotate_left
                · show Act.put _ (some 43) _ = _
                  simp only [Act.put, List.setIfInBounds_toArray, List.set_cons_zero, List.set_cons_succ, i64_w, i32_w]
                  rfl
                exact norm_ (by simp only [putAll, Act.put, List.setIfInBounds_toArray, List.set_cons_zero, List.set_cons_succ]) (hCont ((W.alloc (.cells #[.int .i64 x.2] 2)).heap.size, W.heap.size, AA, cA, AV, cV) _ HT.out)
            · skip
              rintro ⟨nA, nV, A1_, c1_, A2_, c2_⟩ w_ hT_
              have HT := Aside0.mk hT_
              clear hT_
              simp only [putAll, Act.put, List.setIfInBounds_toArray, List.set_cons_zero, List.set_cons_succ]
              -- 15: _ := store 33 t44 t34 : 0 
              refine last_ (i := 15) (N := none) #[true, true, true, true, true, true, true, true, true, true, true, true, true, true, true, true, false, false] rfl rfl (one_of HT_.out (by kernel_rfl)) (by decide) (fun K hK => ?_)
              have z0 := (blk_cell HT.out.blk 0).trans (rfl : _ = some (vA))
              have f0 := blk_frozen HT.out.blk 0
              refine skip_ (w1 := w_.setCell ⟨g, 0, none⟩ (.slice A1_ ((k1 acc).length + 1) c1_)) (by rfl) rfl (by first | (go_simp; done) | (go_simp; rfl)) ?_
              have HT := Aside0.mk (HT.out.set0 (.slice A1_ ((k1 acc).length + 1) c1_))
              refine hK.out _ _ ?_
              clear hK K z0 f0
              -- 16: t45 := fieldAddr 56 t9 1 : 0 
              refine pure_ (i := 16) (N := some 45) (v := ?_) (a' := ?_) #[true, true, true, true, true, true, true, true, true, true, true, true, true, true, true, true, true, false] rfl rfl (any_of HT_.out (by kernel_rfl)) (fun _ _ _ h => h) (Or.inl ⟨by rfl, ?_⟩) ?_ ?_
              rotate_left
              · intro w'
                go_simp
                with_reducible rfl
              rotate_left
              · simp only [Act.put, List.setIfInBounds_toArray, List.set_cons_zero, List.set_cons_succ, i64_w, i32_w]
                rfl
              -- 17: _ := store 33 t45 t43 : 0 
              refine last_ (i := 17) (N := none) #[true, true, true, true, true, true, true, true, true, true, true, true, true, true, true, true, true, true] rfl rfl (one_of HT_.out (by kernel_rfl)) (by decide) (fun K hK => ?_)
              have z0 := (blk_cell HT.out.blk 1).trans (rfl : _ = some (vV))
              have f0 := blk_frozen HT.out.blk 1
              refine skip_ (w1 := (w_.setCell ⟨g, 0, none⟩ (.slice A1_ ((k1 acc).length + 1) c1_)).setCell ⟨g, 1, none⟩ (.slice A2_ ((k2 acc).length + 1) c2_)) (by rfl) rfl (by first | (go_simp; done) | (go_simp; rfl)) ?_
              have HT := Aside0.mk (HT.out.set1 (.slice A2_ ((k2 acc).length + 1) c2_))
              refine hK.out _ _ ?_
              clear hK K z0 f0
              refine done_ (done_of HT_.out (by kernel_rfl)) ?_
              go_wp2
              go_roundg (l.length - (i + 1))
              case measure => have := hq.out; omega
              case rel => exact ⟨i + 1, acc ++ [x], _, _, by omega, ⟨rfl⟩, by go_num, HFS, ⟨by rw [k1_snoc, k2_snoc]; exact HT.out⟩⟩
        · cases b with
          | true =>
            have HFS := Aside0.mk (show (l.take (i + 1)).filter (pt lo hi true) = acc ++ [x] by rw [HFS.out, if_pos (show pt lo hi true x = true by rw [ptT (inR_f2 h1 h2)]; rfl)])
            go_wp2_with fail
            have HSP := Aside0.mk (fun (z : World) (h1 : z.heap[g]? = some (.cells #[vA, vV] 56 (0, 0))) (h2 : Below w3.heap.size w3 z) => (⟨(blk_cell h1 0).trans rfl, (blk_cell h1 1).trans rfl, (h2.cell (World.block_lt_of_cell? w3 _ B31.out)).trans B31.out, (h2.cell (World.block_lt_of_cell? w3 _ Y1.out)).trans Y1.out⟩ : z.cell? ⟨g, 0, none⟩ = some (vA) ∧ z.cell? ⟨g, 1, none⟩ = some (vV) ∧ z.cell? ⟨w.heap.size, 1, none⟩ = some (.slice (some av) l.length c2) ∧ z.cell? (av.add i) = some (.int .i64 x.2)))
            have K0 := HSP.out _ HT.out.drew.blk HT.out.drew.bel
            have HLX := Aside0.mk (show ((k1 acc).length + 1) * 8 ≤ 140737488355328 by rw [k1_len]; have := HAL.out; omega)
            have HLY := Aside0.mk (show ((k2 acc).length + 1) * 8 ≤ 140737488355328 by rw [k2_len]; have := HAL.out; omega)
            refine start_ (n := 18) (S := fun w' => w'.cell? ⟨g, 0, none⟩ = some (vA) ∧ w'.cell? ⟨g, 1, none⟩ = some (vV) ∧ w'.cell? ⟨w.heap.size, 1, none⟩ = some (.slice (some av) l.length c2) ∧ w'.cell? (av.add i) = some (.int .i64 x.2)) (ds := [15, 17]) #[false, false, false, false, false, false, false, false, false, false, false, false, false, false, false, false, false, false] (by kernel_rfl) rfl rfl K0 (fun hHeld => ?_)
            refine with_tabW statePart_any.tab6 statePart_any.bits6 (fun HT_ HW_ => ?_)
            have HT := Aside0.mk HT.out.drew
            clear K0
            generalize (wr).drew = W at HT hHeld ⊢
            -- 0: t30 := fieldAddr 56 t9 0 : 0 
            refine pure_ (i := 0) (N := some 30) (v := ?_) (a' := ?_) #[true, false, false, false, false, false, false, false, false, false, false, false, false, false, false, false, false, false] rfl rfl (any_of HT_.out (by kernel_rfl)) (fun _ _ _ h => h) (Or.inl ⟨by rfl, ?_⟩) ?_ ?_
            rotate_left
            · intro w'
              go_simp
              with_reducible rfl
            rotate_left
            · simp only [Act.put, List.setIfInBounds_toArray, List.set_cons_zero, List.set_cons_succ, i64_w, i32_w]
              rfl
            -- 2: t32 := move t11 : 2 
            refine pure_ (i := 2) (N := some 32) (v := ?_) (a' := ?_) #[true, false, true, false, false, false, false, false, false, false, false, false, false, false, false, false, false, false] rfl rfl (any_of HT_.out (by kernel_rfl)) (fun _ _ _ h => h) (Or.inl ⟨by rfl, ?_⟩) ?_ ?_
            rotate_left
            · intro w'
              go_simp
              with_reducible rfl
            rotate_left
            · simp only [Act.put, List.setIfInBounds_toArray, List.set_cons_zero, List.set_cons_succ, i64_w, i32_w]
              rfl
            -- 5: t35 := fieldAddr 56 t9 1 : 0 
            refine pure_ (i := 5) (N := some 35) (v := ?_) (a' := ?_) #[true, false, true, false, false, true, false, false, false, false, false, false, false, false, false, false, false, false] rfl rfl (any_of HT_.out (by kernel_rfl)) (fun _ _ _ h => h) (Or.inl ⟨by rfl, ?_⟩) ?_ ?_
            rotate_left
            · intro w'
              go_simp
              with_reducible rfl
            rotate_left
            · simp only [Act.put, List.setIfInBounds_toArray, List.set_cons_zero, List.set_cons_succ, i64_w, i32_w]
              rfl
            -- 7: t37 := fieldAddr 56 t4 1 : 0 
            refine pure_ (i := 7) (N := some 37) (v := ?_) (a' := ?_) #[true, false, true, false, false, true, false, true, false, false, false, false, false, false, false, false, false, false] rfl rfl (any_of HT_.out (by kernel_rfl)) (fun _ _ _ h => h) (Or.inl ⟨by rfl, ?_⟩) ?_ ?_
            rotate_left
            · intro w'
              go_simp
              with_reducible rfl
            rotate_left
            · simp only [Act.put, List.setIfInBounds_toArray, List.set_cons_zero, List.set_cons_succ, i64_w, i32_w]
              rfl
            -- 9: t39 := move t10 : 3 
            refine pure_ (i := 9) (N := some 39) (v := ?_) (a' := ?_) #[true, false, true, false, false, true, false, true, false, true, false, false, false, false, false, false, false, false] rfl rfl (any_of HT_.out (by kernel_rfl)) (fun _ _ _ h => h) (Or.inl ⟨by rfl, ?_⟩) ?_ ?_
            rotate_left
            · intro w'
              go_simp
              with_reducible rfl
            rotate_left
            · simp only [Act.put, List.setIfInBounds_toArray, List.set_cons_zero, List.set_cons_succ, i64_w, i32_w]
              rfl
            -- 1: t31 := load 33 t30 : 33 
            refine take_ (i := 1) (N := some 31) (v := ?_) (a' := ?_) #[true, true, true, false, false, true, false, true, false, true, false, false, false, false, false, false, false, false] rfl rfl (take_ofW HT_.out HW_.out (by kernel_rfl)) (fun _ _ _ h => h) (Or.inl ⟨by rfl, ?_⟩) hHeld ?_ ?_
            rotate_left
            · rintro w' ⟨s0, s1, s2, s3⟩
              go_simp
              with_reducible rfl
            rotate_left
            · simp only [Act.put, List.setIfInBounds_toArray, List.set_cons_zero, List.set_cons_succ, i64_w, i32_w]
              rfl
            -- 6: t36 := load 33 t35 : 33 
            refine take_ (i := 6) (N := some 36) (v := ?_) (a' := ?_) #[true, true, true, false, false, true, true, true, false, true, false, false, false, false, false, false, false, false] rfl rfl (take_ofW HT_.out HW_.out (by kernel_rfl)) (fun _ _ _ h => h) (Or.inl ⟨by rfl, ?_⟩) hHeld ?_ ?_
            rotate_left
            · rintro w' ⟨s0, s1, s2, s3⟩
              go_simp
              with_reducible rfl
            rotate_left
            · simp only [Act.put, List.setIfInBounds_toArray, List.set_cons_zero, List.set_cons_succ, i64_w, i32_w]
              rfl
            -- 8: t38 := load 33 t37 : 33 
            refine take_ (i := 8) (N := some 38) (v := ?_) (a' := ?_) #[true, true, true, false, false, true, true, true, true, true, false, false, false, false, false, false, false, false] rfl rfl (take_ofW HT_.out HW_.out (by kernel_rfl)) (fun _ _ _ h => h) (Or.inl ⟨by rfl, ?_⟩) hHeld ?_ ?_
            rotate_left
            · rintro w' ⟨s0, s1, s2, s3⟩
              go_simp
              with_reducible rfl
            rotate_left
            · simp only [Act.put, List.setIfInBounds_toArray, List.set_cons_zero, List.set_cons_succ, i64_w, i32_w]
              rfl
            -- 10: t40 := indexAddr 33 t38 t39 : 0 
            refine pure_ (i := 10) (N := some 40) (v := ?_) (a' := ?_) #[true, true, true, false, false, true, true, true, true, true, true, false, false, false, false, false, false, false] rfl rfl (any_of HT_.out (by kernel_rfl)) (fun _ _ _ h => h) (Or.inl ⟨by rfl, ?_⟩) ?_ ?_
            rotate_left
            · intro w'
              go_simp
              with_reducible rfl
            rotate_left
            · simp only [Act.put, List.setIfInBounds_toArray, List.set_cons_zero, List.set_cons_succ, i64_w, i32_w]
              rfl
            -- 11: t41 := load 2 t40 : 2 
            refine take_ (i := 11) (N := some 41) (v := ?_) (a' := ?_) #[true, true, true, false, false, true, true, true, true, true, true, true, false, false, false, false, false, false] rfl rfl (take_ofW HT_.out HW_.out (by kernel_rfl)) (fun _ _ _ h => h) (Or.inl ⟨by rfl, ?_⟩) hHeld ?_ ?_
            rotate_left
            · rintro w' ⟨s0, s1, s2, s3⟩
              go_simp
              with_reducible rfl
            rotate_left
            · simp only [Act.put, List.setIfInBounds_toArray, List.set_cons_zero, List.set_cons_succ, i64_w, i32_w]
              rfl
            refine join_ (σ := (Nat × Nat × Option Addr × Nat × Option Addr × Nat)) 3 #[true, true, true, true, true, true, true, true, true, true, true, true, true, true, true, false, false, false] (fun s_ => [(33, .slice (some ⟨s_.1, 0, none⟩) 1 1), (34, .slice s_.2.2.1 ((k1 acc).length + 1) s_.2.2.2.1), (42, .slice (some ⟨s_.2.1, 0, none⟩) 1 1), (43, .slice s_.2.2.2.2.1 ((k2 acc).length + 1) s_.2.2.2.2.2), (44, .pointer (some ⟨g, 0, none⟩))]) (fun s_ w' => TC w3 w3.heap.size g vA vV (.slice s_.2.2.1 ((k1 acc).length + 1) s_.2.2.2.1) (.slice s_.2.2.2.2.1 ((k2 acc).length + 1) s_.2.2.2.2.2) (k1 acc ++ [x.1]) (k2 acc ++ [x.2]) w') ?_ ?_
            rotate_left
            · intro hCont
              refine two_ (i := 3) (j := 12) (Ni := some 33) (Nj := some 42) #[true, true, true, true, false, true, true, true, true, true, true, true, false, false, false, false, false, false] #[true, true, true, false, false, true, true, true, true, true, true, true, true, false, false, false, false, false] rfl rfl rfl rfl (two_of HT_.out (by kernel_rfl)) (by decide) (by decide) (fun K hK => ?_) (fun K hK => ?_)
              · skip
                refine event_step (v := .slice (some ⟨W.heap.size, 0, none⟩) 1 1) (w1 := W.alloc (.cells #[.int .i64 x.1] 2)) (by rfl) (by first | (go_simp; done) | (go_simp; rfl)) ?_
                have HLA := Aside0.mk (HT.out.lit x.1)
                have HT := Aside0.mk (HT.out.alloc (.cells #[.int .i64 x.1] 2))
                refine hK.out _ _ (HSP.out _ HT.out.blk HT.out.bel) (fun hHeld => ?_)
                clear hK K
                refine norm_ (a' := ?_) ?_ ?_
                rotate_left
                · show Act.put _ (some 33) _ = _
                  simp only [Act.put, List.setIfInBounds_toArray, List.set_cons_zero, List.set_cons_succ, i64_w, i32_w]
                  rfl
                refine two_ (i := 4) (j := 12) (Ni := some 34) (Nj := some 42) #[true, true, true, true, true, true, true, true, true, true, true, true, false, false, false, false, false, false] #[true, true, true, true, false, true, true, true, true, true, true, true, true, false, false, false, false, false] rfl rfl rfl rfl (two_of HT_.out (by kernel_rfl)) (by decide) (by decide) (fun K hK => ?_) (fun K hK => ?_)
                · skip
                  refine TC.appA (W := (W.alloc (.cells #[.int .i64 x.1] 2))) (p := x.1) (n := W.heap.size) HT.out HLA.out (by rfl) (.tmp 31) (.tmp 33) 33 (by rfl) Try.underlying33 info2 (by rfl) (by rfl) HLX.out ?_
                  intro AA cA wA hT1 hL1
                  have HT := Aside0.mk hT1
                  clear hT1 hL1
                  refine hK.out _ _ (HSP.out _ HT.out.blk HT.out.bel) (fun hHeld => ?_)
                  clear hK K
                  refine norm_ (a' := ?_) ?_ ?_
                  rotate_left
                  · show Act.put _ (some 34) _ = _
                    simp only [Act.put, List.setIfInBounds_toArray, List.set_cons_zero, List.set_cons_succ, i64_w, i32_w]
                    rfl
                  refine pure_ (i := 14) (N := some 44) (v := ?_) (a' := ?_) #[true, true, true, true, true, true, true, true, true, true, true, true, false, false, true, false, false, false] rfl rfl (any_of HT_.out (by kernel_rfl)) (fun _ _ _ h => h) (Or.inl ⟨by rfl, ?_⟩) ?_ ?_
                  rotate_left
                  · intro w'
                    go_simp
                    with_reducible rfl
                  rotate_left
                  · simp only [Act.put, List.setIfInBounds_toArray, List.set_cons_zero, List.set_cons_succ, i64_w, i32_w]
                    rfl
                  refine one_ (i := 12) (N := some 42) #[true, true, true, true, true, true, true, true, true, true, true, true, true, false, true, false, false, false] rfl rfl (one_of HT_.out (by kernel_rfl)) (by decide) (fun K hK => ?_)
                  refine event_step (v := .slice (some ⟨wA.heap.size, 0, none⟩) 1 1) (w1 := wA.alloc (.cells #[.int .i64 x.2] 2)) (by rfl) (by first | (go_simp; done) | (go_simp; rfl)) ?_
                  have HLV := Aside0.mk (HT.out.lit x.2)
                  have HT := Aside0.mk (HT.out.alloc (.cells #[.int .i64 x.2] 2))
                  refine hK.out _ _ (HSP.out _ HT.out.blk HT.out.bel) (fun hHeld => ?_)
                  clear hK K
                  refine norm_ (a' := ?_) ?_ ?_
                  rotate_left
                  · show Act.put _ (some 42) _ = _
                    simp only [Act.put, List.setIfInBounds_toArray, List.set_cons_zero, List.set_cons_succ, i64_w, i32_w]
                    rfl
                  refine one_ (i := 13) (N := some 43) #[true, true, true, true, true, true, true, true, true, true, true, true, true, true, true, false, false, false] rfl rfl (one_of HT_.out (by kernel_rfl)) (by decide) (fun K hK => ?_)
                  refine TC.appV (W := (wA.alloc (.cells #[.int .i64 x.2] 2))) (p := x.2) (n := wA.heap.size) HT.out HLV.out (by rfl) (.tmp 36) (.tmp 42) 33 (by rfl) Try.underlying33 info2 (by rfl) (by rfl) HLY.out ?_
                  intro AV cV wV hT1 hL1
                  have HT := Aside0.mk hT1
                  clear hT1 hL1
                  refine hK.out _ _ (HSP.out _ HT.out.blk HT.out.bel) (fun hHeld => ?_)
                  clear hK K
                  refine norm_ (a' := ?_) ?_ ?_
                  rotate_left
                  · show Act.put _ (some 43) _ = _
                    simp only [Act.put, List.setIfInBounds_toArray, List.set_cons_zero, List.set_cons_succ, i64_w, i32_w]
                    rfl
                  exact norm_ (by simp only [putAll, Act.put, List.setIfInBounds_toArray, List.set_cons_zero, List.set_cons_succ]) (hCont (W.heap.size, wA.heap.size, AA, cA, AV, cV) _ HT.out)
                · skip
                  refine event_step (v := .slice (some ⟨(W.alloc (.cells #[.int .i64 x.1] 2)).heap.size, 0, none⟩) 1 1) (w1 := (W.alloc (.cells #[.int .i64 x.1] 2)).alloc (.cells #[.int .i64 x.2] 2)) (by rfl) (by first | (go_simp; done) | (go_simp; rfl)) ?_
                  have HLV := Aside0.mk (HT.out.lit x.2)
                  have HLA := Aside0.mk (HLA.out.alloc (.cells #[.int .i64 x.2] 2))
                  have HT := Aside0.mk (HT.out.alloc (.cells #[.int .i64 x.2] 2))
                  refine hK.out _ _ (HSP.out _ HT.out.blk HT.out.bel) (fun hHeld => ?_)
                  clear hK K
                  refine norm_ (a' := ?_) ?_ ?_
                  rotate_left
                  · show Act.put _ (some 42) _ = _
                    simp only [Act.put, List.setIfInBounds_toArray, List.set_cons_zero, List.set_cons_succ, i64_w, i32_w]
                    rfl
                  refine one_ (i := 4) (N := some 34) #[true, true, true, true, true, true, true, true, true, true, true, true, true, false, false, false, false, false] rfl rfl (one_of HT_.out (by kernel_rfl)) (by decide) (fun K hK => ?_)
                  refine TC.appA (W := ((W.alloc (.cells #[.int .i64 x.1] 2)).alloc (.cells #[.int .i64 x.2] 2))) (p := x.1) (n := W.heap.size) HT.out HLA.out (by rfl) (.tmp 31) (.tmp 33) 33 (by rfl) Try.underlying33 info2 (by rfl) (by rfl) HLX.out ?_
                  intro AA cA wA hT1 hL1
                  have HT := Aside0.mk hT1
                  have HLV := Aside0.mk (hL1 _ _ HLV.out)
                  clear hT1 hL1
                  refine hK.out _ _ (HSP.out _ HT.out.blk HT.out.bel) (fun hHeld => ?_)
                  clear hK K
                  refine norm_ (a' := ?_) ?_ ?_
                  rotate_left
                  · show Act.put _ (some 34) _ = _
                    simp only [Act.put, List.setIfInBounds_toArray, List.set_cons_zero, List.set_cons_succ, i64_w, i32_w]
                    rfl
                  refine pure_ (i := 14) (N := some 44) (v := ?_) (a' := ?_) #[true, true, true, true, true, true, true, true, true, true, true, true, true, false, true, false, false, false] rfl rfl (any_of HT_.out (by kernel_rfl)) (fun _ _ _ h => h) (Or.inl ⟨by rfl, ?_⟩) ?_ ?_
                  rotate_left
                  · intro w'
                    go_simp
                    with_reducible rfl
                  rotate_left
                  · simp only [Act.put, List.setIfInBounds_toArray, List.set_cons_zero, List.set_cons_succ, i64_w, i32_w]
                    rfl
                  refine one_ (i := 13) (N := some 43) #[true, true, true, true, true, true, true, true, true, true, true, true, true, true, true, false, false, false] rfl rfl (one_of HT_.out (by kernel_rfl)) (by decide) (fun K hK => ?_)
                  refine TC.appV (W := wA) (p := x.2) (n := (W.alloc (.cells #[.int .i64 x.1] 2)).heap.size) HT.out HLV.out (by rfl) (.tmp 36) (.tmp 42) 33 (by rfl) Try.underlying33 info2 (by rfl) (by rfl) HLY.out ?_
                  intro AV cV wV hT1 hL1
                  have HT := Aside0.mk hT1
                  clear hT1 hL1
                  refine hK.out _ _ (HSP.out _ HT.out.blk HT.out.bel) (fun hHeld => ?_)
                  clear hK K
                  refine norm_ (a' := ?_) ?_ ?_
                  rotate_left
                  · show Act.put _ (some 43) _ = _
                    simp only [Act.put, List.setIfInBounds_toArray, List.set_cons_zero, List.set_cons_succ, i64_w, i32_w]
                    rfl
                  exact norm_ (by simp only [putAll, Act.put, List.setIfInBounds_toArray, List.set_cons_zero, List.set_cons_succ]) (hCont (W.heap.size, (W.alloc (.cells #[.int .i64 x.1] 2)).heap.size, AA, cA, AV, cV) _ HT.out)
              · skip
                refine event_step (v := .slice (some ⟨W.heap.size, 0, none⟩) 1 1) (w1 := W.alloc (.cells #[.int .i64 x.2] 2)) (by rfl) (by first | (go_simp; done) | (go_simp; rfl)) ?_
                have HLV := Aside0.mk (HT.out.lit x.2)
                have HT := Aside0.mk (HT.out.alloc (.cells #[.int .i64 x.2] 2))
                refine hK.out _ _ (HSP.out _ HT.out.blk HT.out.bel) (fun hHeld => ?_)
                clear hK K
                refine norm_ (a' := ?_) ?_ ?_
                rotate_left
                · show Act.put _ (some 42) _ = _
                  simp only [Act.put, List.setIfInBounds_toArray, List.set_cons_zero, List.set_cons_succ, i64_w, i32_w]
                  rfl
                refine one_ (i := 3) (N := some 33) #[true, true, true, true, false, true, true, true, true, true, true, true, true, false, false, false, false, false] rfl rfl (one_of HT_.out (by kernel_rfl)) (by decide) (fun K hK => ?_)
                refine event_step (v := .slice (some ⟨(W.alloc (.cells #[.int .i64 x.2] 2)).heap.size, 0, none⟩) 1 1) (w1 := (W.alloc (.cells #[.int .i64 x.2] 2)).alloc (.cells #[.int .i64 x.1] 2)) (by rfl) (by first | (go_simp; done) | (go_simp; rfl)) ?_
                have HLA := Aside0.mk (HT.out.lit x.1)
                have HLV := Aside0.mk (HLV.out.alloc (.cells #[.int .i64 x.1] 2))
                have HT := Aside0.mk (HT.out.alloc (.cells #[.int .i64 x.1] 2))
                refine hK.out _ _ (HSP.out _ HT.out.blk HT.out.bel) (fun hHeld => ?_)
                clear hK K
                refine norm_ (a' := ?_) ?_ ?_
                rotate_left
                · show Act.put _ (some 33) _ = _
                  simp only [Act.put, List.setIfInBounds_toArray, List.set_cons_zero, List.set_cons_succ, i64_w, i32_w]
                  rfl
                refine one_ (i := 4) (N := some 34) #[true, true, true, true, true, true, true, true, true, true, true, true, true, false, false, false, false, false] rfl rfl (one_of HT_.out (by kernel_rfl)) (by decide) (fun K hK => ?_)
                refine TC.appA (W := ((W.alloc (.cells #[.int .i64 x.2] 2)).alloc (.cells #[.int .i64 x.1] 2))) (p := x.1) (n := (W.alloc (.cells #[.int .i64 x.2] 2)).heap.size) HT.out HLA.out (by rfl) (.tmp 31) (.tmp 33) 33 (by rfl) Try.underlying33 info2 (by rfl) (by rfl) HLX.out ?_
                intro AA cA wA hT1 hL1
                have HT := Aside0.mk hT1
                have HLV := Aside0.mk (hL1 _ _ HLV.out)
                clear hT1 hL1
                refine hK.out _ _ (HSP.out _ HT.out.blk HT.out.bel) (fun hHeld => ?_)
                clear hK K
                refine norm_ (a' := ?_) ?_ ?_
                rotate_left
                · show Act.put _ (some 34) _ = _
                  simp only [Act.put, List.setIfInBounds_toArray, List.set_cons_zero, List.set_cons_succ, i64_w, i32_w]
                  rfl
                refine pure_ (i := 14) (N := some 44) (v := ?_) (a' := ?_) #[true, true, true, true, true, true, true, true, true, true, true, true, true, false, true, false, false, false] rfl rfl (any_of HT_.out (by kernel_rfl)) (fun _ _ _ h => h) (Or.inl ⟨by rfl, ?_⟩) ?_ ?_
                rotate_left
                · intro w'
                  go_simp
                  with_reducible rfl
                rotate_left
                · simp only [Act.put, List.setIfInBounds_toArray, List.set_cons_zero, List.set_cons_succ, i64_w, i32_w]
                  rfl
                refine one_ (i := 13) (N := some 43) #[true, true, true, true, true, true, true, true, true, true, true, true, true, true, true, false, false, false] rfl rfl (one_of HT_.out (by kernel_rfl)) (by decide) (fun K hK => ?_)
                refine TC.appV (W := wA) (p := x.2) (n := W.heap.size) HT.out HLV.out (by rfl) (.tmp 36) (.tmp 42) 33 (by rfl) Try.underlying33 info2 (by rfl) (by rfl) HLY.out ?_
                intro AV cV wV hT1 hL1
                have HT := Aside0.mk hT1
                clear hT1 hL1
                refine hK.out _ _ (HSP.out _ HT.out.blk HT.out.bel) (fun hHeld => ?_)
                clear hK K
                refine norm_ (a' := ?_) ?_ ?_
                rotate_left
                · show Act.put _ (some 43) _ = _
                  simp only [Act.put, List.setIfInBounds_toArray, List.set_cons_zero, List.set_cons_succ, i64_w, i32_w]
                  rfl
                exact norm_ (by simp only [putAll, Act.put, List.setIfInBounds_toArray, List.set_cons_zero, List.set_cons_succ]) (hCont ((W.alloc (.cells #[.int .i64 x.2] 2)).heap.size, W.heap.size, AA, cA, AV, cV) _ HT.out)
            · skip
              rintro ⟨nA, nV, A1_, c1_, A2_, c2_⟩ w_ hT_
              have HT := Aside0.mk hT_
              clear hT_
              simp only [putAll, Act.put, List.setIfInBounds_toArray, List.set_cons_zero, List.set_cons_succ]
              -- 15: _ := store 33 t44 t34 : 0 
              refine last_ (i := 15) (N := none) #[true, true, true, true, true, true, true, true, true, true, true, true, true, true, true, true, false, false] rfl rfl (one_of HT_.out (by kernel_rfl)) (by decide) (fun K hK => ?_)
              have z0 := (blk_cell HT.out.blk 0).trans (rfl : _ = some (vA))
              have f0 := blk_frozen HT.out.blk 0
              refine skip_ (w1 := w_.setCell ⟨g, 0, none⟩ (.slice A1_ ((k1 acc).length + 1) c1_)) (by rfl) rfl (by first | (go_simp; done) | (go_simp; rfl)) ?_
              have HT := Aside0.mk (HT.out.set0 (.slice A1_ ((k1 acc).length + 1) c1_))
              refine hK.out _ _ ?_
              clear hK K z0 f0
              -- 16: t45 := fieldAddr 56 t9 1 : 0 
              refine pure_ (i := 16) (N := some 45) (v := ?_) (a' := ?_) #[true, true, true, true, true, true, true, true, true, true, true, true, true, true, true, true, true, false] rfl rfl (any_of HT_.out (by kernel_rfl)) (fun _ _ _ h => h) (Or.inl ⟨by rfl, ?_⟩) ?_ ?_
              rotate_left
              · intro w'
                go_simp
                with_reducible rfl
              rotate_left
              · simp only [Act.put, List.setIfInBounds_toArray, List.set_cons_zero, List.set_cons_succ, i64_w, i32_w]
                rfl
              -- 17: _ := store 33 t45 t43 : 0 
              refine last_ (i := 17) (N := none) #[true, true, true, true, true, true, true, true, true, true, true, true, true, true, true, true, true, true] rfl rfl (one_of HT_.out (by kernel_rfl)) (by decide) (fun K hK => ?_)
              have z0 := (blk_cell HT.out.blk 1).trans (rfl : _ = some (vV))
              have f0 := blk_frozen HT.out.blk 1
              refine skip_ (w1 := (w_.setCell ⟨g, 0, none⟩ (.slice A1_ ((k1 acc).length + 1) c1_)).setCell ⟨g, 1, none⟩ (.slice A2_ ((k2 acc).length + 1) c2_)) (by rfl) rfl (by first | (go_simp; done) | (go_simp; rfl)) ?_
              have HT := Aside0.mk (HT.out.set1 (.slice A2_ ((k2 acc).length + 1) c2_))
              refine hK.out _ _ ?_
              clear hK K z0 f0
              refine done_ (done_of HT_.out (by kernel_rfl)) ?_
              go_wp2
              go_roundg (l.length - (i + 1))
              case measure => have := hq.out; omega
              case rel => exact ⟨i + 1, acc ++ [x], _, _, by omega, ⟨rfl⟩, by go_num, HFS, ⟨by rw [k1_snoc, k2_snoc]; exact HT.out⟩⟩
          | false =>
            have HFS := Aside0.mk (show (l.take (i + 1)).filter (pt lo hi false) = acc by rw [HFS.out, if_neg (show ¬ pt lo hi false x = true by rw [ptT (inR_f2 h1 h2)]; decide)])
            go_wp2
            go_roundg (l.length - (i + 1))
            case measure => have := hq.out; omega
            case rel => exact ⟨i + 1, acc, vA, vV, by omega, ⟨rfl⟩, by go_num, HFS, HT⟩
      · cases b with
        | true =>
          have HFS := Aside0.mk (show (l.take (i + 1)).filter (pt lo hi true) = acc ++ [x] by rw [HFS.out, if_pos (show pt lo hi true x = true by rw [ptT (inR_f1 h1)]; rfl)])
          go_wp2_with fail
          have HSP := Aside0.mk (fun (z : World) (h1 : z.heap[g]? = some (.cells #[vA, vV] 56 (0, 0))) (h2 : Below w3.heap.size w3 z) => (⟨(blk_cell h1 0).trans rfl, (blk_cell h1 1).trans rfl, (h2.cell (World.block_lt_of_cell? w3 _ B31.out)).trans B31.out, (h2.cell (World.block_lt_of_cell? w3 _ Y1.out)).trans Y1.out⟩ : z.cell? ⟨g, 0, none⟩ = some (vA) ∧ z.cell? ⟨g, 1, none⟩ = some (vV) ∧ z.cell? ⟨w.heap.size, 1, none⟩ = some (.slice (some av) l.length c2) ∧ z.cell? (av.add i) = some (.int .i64 x.2)))
          have K0 := HSP.out _ HT.out.drew.blk HT.out.drew.bel
          have HLX := Aside0.mk (show ((k1 acc).length + 1) * 8 ≤ 140737488355328 by rw [k1_len]; have := HAL.out; omega)
          have HLY := Aside0.mk (show ((k2 acc).length + 1) * 8 ≤ 140737488355328 by rw [k2_len]; have := HAL.out; omega)
          refine start_ (n := 18) (S := fun w' => w'.cell? ⟨g, 0, none⟩ = some (vA) ∧ w'.cell? ⟨g, 1, none⟩ = some (vV) ∧ w'.cell? ⟨w.heap.size, 1, none⟩ = some (.slice (some av) l.length c2) ∧ w'.cell? (av.add i) = some (.int .i64 x.2)) (ds := [15, 17]) #[false, false, false, false, false, false, false, false, false, false, false, false, false, false, false, false, false, false] (by kernel_rfl) rfl rfl K0 (fun hHeld => ?_)
          refine with_tabW statePart_any.tab6 statePart_any.bits6 (fun HT_ HW_ => ?_)
          have HT := Aside0.mk HT.out.drew
          clear K0
          generalize (wr).drew = W at HT hHeld ⊢
          -- 0: t30 := fieldAddr 56 t9 0 : 0 
          refine pure_ (i := 0) (N := some 30) (v := ?_) (a' := ?_) #[true, false, false, false, false, false, false, false, false, false, false, false, false, false, false, false, false, false] rfl rfl (any_of HT_.out (by kernel_rfl)) (fun _ _ _ h => h) (Or.inl ⟨by rfl, ?_⟩) ?_ ?_
          rotate_left
          · intro w'
            go_simp
            with_reducible rfl
          rotate_left
          · simp only [Act.put, List.setIfInBounds_toArray, List.set_cons_zero, List.set_cons_succ, i64_w, i32_w]
            rfl
          -- 2: t32 := move t11 : 2 
          refine pure_ (i := 2) (N := some 32) (v := ?_) (a' := ?_) #[true, false, true, false, false, false, false, false, false, false, false, false, false, false, false, false, false, false] rfl rfl (any_of HT_.out (by kernel_rfl)) (fun _ _ _ h => h) (Or.inl ⟨by rfl, ?_⟩) ?_ ?_
          rotate_left
          · intro w'
            go_simp
            with_reducible rfl
          rotate_left
          · simp only [Act.put, List.setIfInBounds_toArray, List.set_cons_zero, List.set_cons_succ, i64_w, i32_w]
            rfl
          -- 5: t35 := fieldAddr 56 t9 1 : 0 
          refine pure_ (i := 5) (N := some 35) (v := ?_) (a' := ?_) #[true, false, true, false, false, true, false, false, false, false, false, false, false, false, false, false, false, false] rfl rfl (any_of HT_.out (by kernel_rfl)) (fun _ _ _ h => h) (Or.inl ⟨by rfl, ?_⟩) ?_ ?_
          rotate_left
          · intro w'
            go_simp
            with_reducible rfl
          rotate_left
          · simp only [Act.put, List.setIfInBounds_toArray, List.set_cons_zero, List.set_cons_succ, i64_w, i32_w]
            rfl
          -- 7: t37 := fieldAddr 56 t4 1 : 0 
          refine pure_ (i := 7) (N := some 37) (v := ?_) (a' := ?_) #[true, false, true, false, false, true, false, true, false, false, false, false, false, false, false, false, false, false] rfl rfl (any_of HT_.out (by kernel_rfl)) (fun _ _ _ h => h) (Or.inl ⟨by rfl, ?_⟩) ?_ ?_
          rotate_left
          · intro w'
            go_simp
            with_reducible rfl
          rotate_left
          · simp only [Act.put, List.setIfInBounds_toArray, List.set_cons_zero, List.set_cons_succ, i64_w, i32_w]
            rfl
          -- 9: t39 := move t10 : 3 
          refine pure_ (i := 9) (N := some 39) (v := ?_) (a' := ?_) #[true, false, true, false, false, true, false, true, false, true, false, false, false, false, false, false, false, false] rfl rfl (any_of HT_.out (by kernel_rfl)) (fun _ _ _ h => h) (Or.inl ⟨by rfl, ?_⟩) ?_ ?_
          rotate_left
          · intro w'
            go_simp
            with_reducible rfl
          rotate_left
          · simp only [Act.put, List.setIfInBounds_toArray, List.set_cons_zero, List.set_cons_succ, i64_w, i32_w]
            rfl
          -- 1: t31 := load 33 t30 : 33 
          refine take_ (i := 1) (N := some 31) (v := ?_) (a' := ?_) #[true, true, true, false, false, true, false, true, false, true, false, false, false, false, false, false, false, false] rfl rfl (take_ofW HT_.out HW_.out (by kernel_rfl)) (fun _ _ _ h => h) (Or.inl ⟨by rfl, ?_⟩) hHeld ?_ ?_
          rotate_left
          · rintro w' ⟨s0, s1, s2, s3⟩
            go_simp
            with_reducible rfl
          rotate_left
          · simp only [Act.put, List.setIfInBounds_toArray, List.set_cons_zero, List.set_cons_succ, i64_w, i32_w]
            rfl
          -- 6: t36 := load 33 t35 : 33 
          refine take_ (i := 6) (N := some 36) (v := ?_) (a' := ?_) #[true, true, true, false, false, true, true, true, false, true, false, false, false, false, false, false, false, false] rfl rfl (take_ofW HT_.out HW_.out (by kernel_rfl)) (fun _ _ _ h => h) (Or.inl ⟨by rfl, ?_⟩) hHeld ?_ ?_
          rotate_left
          · rintro w' ⟨s0, s1, s2, s3⟩
            go_simp
            with_reducible rfl
          rotate_left
          · simp only [Act.put, List.setIfInBounds_toArray, List.set_cons_zero, List.set_cons_succ, i64_w, i32_w]
            rfl
          -- 8: t38 := load 33 t37 : 33 
          refine take_ (i := 8) (N := some 38) (v := ?_) (a' := ?_) #[true, true, true, false, false, true, true, true, true, true, false, false, false, false, false, false, false, false] rfl rfl (take_ofW HT_.out HW_.out (by kernel_rfl)) (fun _ _ _ h => h) (Or.inl ⟨by rfl, ?_⟩) hHeld ?_ ?_
          rotate_left
          · rintro w' ⟨s0, s1, s2, s3⟩
            go_simp
            with_reducible rfl
          rotate_left
          · simp only [Act.put, List.setIfInBounds_toArray, List.set_cons_zero, List.set_cons_succ, i64_w, i32_w]
            rfl
          -- 10: t40 := indexAddr 33 t38 t39 : 0 
          refine pure_ (i := 10) (N := some 40) (v := ?_) (a' := ?_) #[true, true, true, false, false, true, true, true, true, true, true, false, false, false, false, false, false, false] rfl rfl (any_of HT_.out (by kernel_rfl)) (fun _ _ _ h => h) (Or.inl ⟨by rfl, ?_⟩) ?_ ?_
          rotate_left
          · intro w'
            go_simp
            with_reducible rfl
          rotate_left
          · simp only [Act.put, List.setIfInBounds_toArray, List.set_cons_zero, List.set_cons_succ, i64_w, i32_w]
            rfl
          -- 11: t41 := load 2 t40 : 2 
          refine take_ (i := 11) (N := some 41) (v := ?_) (a' := ?_) #[true, true, true, false, false, true, true, true, true, true, true, true, false, false, false, false, false, false] rfl rfl (take_ofW HT_.out HW_.out (by kernel_rfl)) (fun _ _ _ h => h) (Or.inl ⟨by rfl, ?_⟩) hHeld ?_ ?_
          rotate_left
          · rintro w' ⟨s0, s1, s2, s3⟩
            go_simp
            with_reducible rfl
          rotate_left
          · simp only [Act.put, List.setIfInBounds_toArray, List.set_cons_zero, List.set_cons_succ, i64_w, i32_w]
            rfl
          refine join_ (σ := (Nat × Nat × Option Addr × Nat × Option Addr × Nat)) 3 #[true, true, true, true, true, true, true, true, true, true, true, true, true, true, true, false, false, false] (fun s_ => [(33, .slice (some ⟨s_.1, 0, none⟩) 1 1), (34, .slice s_.2.2.1 ((k1 acc).length + 1) s_.2.2.2.1), (42, .slice (some ⟨s_.2.1, 0, none⟩) 1 1), (43, .slice s_.2.2.2.2.1 ((k2 acc).length + 1) s_.2.2.2.2.2), (44, .pointer (some ⟨g, 0, none⟩))]) (fun s_ w' => TC w3 w3.heap.size g vA vV (.slice s_.2.2.1 ((k1 acc).length + 1) s_.2.2.2.1) (.slice s_.2.2.2.2.1 ((k2 acc).length + 1) s_.2.2.2.2.2) (k1 acc ++ [x.1]) (k2 acc ++ [x.2]) w') ?_ ?_
          rotate_left
          · intro hCont
            refine two_ (i := 3) (j := 12) (Ni := some 33) (Nj := some 42) #[true, true, true, true, false, true, true, true, true, true, true, true, false, false, false, false, false, false] #[true, true, true, false, false, true, true, true, true, true, true, true, true, false, false, false, false, false] rfl rfl rfl rfl (two_of HT_.out (by kernel_rfl)) (by decide) (by decide) (fun K hK => ?_) (fun K hK => ?_)
            · skip
              refine event_step (v := .slice (some ⟨W.heap.size, 0, none⟩) 1 1) (w1 := W.alloc (.cells #[.int .i64 x.1] 2)) (by rfl) (by first | (go_simp; done) | (go_simp; rfl)) ?_
              have HLA := Aside0.mk (HT.out.lit x.1)
              have HT := Aside0.mk (HT.out.alloc (.cells #[.int .i64 x.1] 2))
              refine hK.out _ _ (HSP.out _ HT.out.blk HT.out.bel) (fun hHeld => ?_)
              clear hK K
              refine norm_ (a' := ?_) ?_ ?_
              rotate_left
              · show Act.put _ (some 33) _ = _
                simp only [Act.put, List.setIfInBounds_toArray, List.set_cons_zero, List.set_cons_succ, i64_w, i32_w]
                rfl
              refine two_ (i := 4) (j := 12) (Ni := some 34) (Nj := some 42) #[true, true, true, true, true, true, true, true, true, true, true, true, false, false, false, false, false, false] #[true, true, true, true, false, true, true, true, true, true, true, true, true, false, false, false, false, false] rfl rfl rfl rfl (two_of HT_.out (by kernel_rfl)) (by decide) (by decide) (fun K hK => ?_) (fun K hK => ?_)
              · skip
                refine TC.appA (W := (W.alloc (.cells #[.int .i64 x.1] 2))) (p := x.1) (n := W.heap.size) HT.out HLA.out (by rfl) (.tmp 31) (.tmp 33) 33 (by rfl) Try.underlying33 info2 (by rfl) (by rfl) HLX.out ?_
                intro AA cA wA hT1 hL1
                have HT := Aside0.mk hT1
                clear hT1 hL1
                refine hK.out _ _ (HSP.out _ HT.out.blk HT.out.bel) (fun hHeld => ?_)
                clear hK K
                refine norm_ (a' := ?_) ?_ ?_
                rotate_left
                · show Act.put _ (some 34) _ = _
                  simp only [Act.put, List.setIfInBounds_toArray, List.set_cons_zero, List.set_cons_succ, i64_w, i32_w]
                  rfl
                refine pure_ (i := 14) (N := some 44) (v := ?_) (a' := ?_) #[true, true, true, true, true, true, true, true, true, true, true, true, false, false, true, false, false, false] rfl rfl (any_of HT_.out (by kernel_rfl)) (fun _ _ _ h => h) (Or.inl ⟨by rfl, ?_⟩) ?_ ?_
                rotate_left
                · intro w'
                  go_simp
                  with_reducible rfl
                rotate_left
                · simp only [Act.put, List.setIfInBounds_toArray, List.set_cons_zero, List.set_cons_succ, i64_w, i32_w]
                  rfl
                refine one_ (i := 12) (N := some 42) #[true, true, true, true, true, true, true, true, true, true, true, true, true, false, true, false, false, false] rfl rfl (one_of HT_.out (by kernel_rfl)) (by decide) (fun K hK => ?_)
                refine event_step (v := .slice (some ⟨wA.heap.size, 0, none⟩) 1 1) (w1 := wA.alloc (.cells #[.int .i64 x.2] 2)) (by rfl) (by first | (go_simp; done) | (go_simp; rfl)) ?_
                have HLV := Aside0.mk (HT.out.lit x.2)
                have HT := Aside0.mk (HT.out.alloc (.cells #[.int .i64 x.2] 2))
                refine hK.out _ _ (HSP.out _ HT.out.blk HT.out.bel) (fun hHeld => ?_)
                clear hK K
                refine norm_ (a' := ?_) ?_ ?_
                rotate_left
                · show Act.put _ (some 42) _ = _
                  simp only [Act.put, List.setIfInBounds_toArray, List.set_cons_zero, List.set_cons_succ, i64_w, i32_w]
                  rfl
                refine one_ (i := 13) (N := some 43) #[true, true, true, true, true, true, true, true, true, true, true, true, true, true, true, false, false, false] rfl rfl (one_of HT_.out (by kernel_rfl)) (by decide) (fun K hK => ?_)
                refine TC.appV (W := (wA.alloc (.cells #[.int .i64 x.2] 2))) (p := x.2) (n := wA.heap.size) HT.out HLV.out (by rfl) (.tmp 36) (.tmp 42) 33 (by rfl) Try.underlying33 info2 (by rfl) (by rfl) HLY.out ?_
                intro AV cV wV hT1 hL1
                have HT := Aside0.mk hT1
                clear hT1 hL1
                refine hK.out _ _ (HSP.out _ HT.out.blk HT.out.bel) (fun hHeld => ?_)
                clear hK K
                refine norm_ (a' := ?_) ?_ ?_
                rotate_left
                · show Act.put _ (some 43) _ = _
                  simp only [Act.put, List.setIfInBounds_toArray, List.set_cons_zero, List.set_cons_succ, i64_w, i32_w]
                  rfl
                exact norm_ (by simp only [putAll, Act.put, List.setIfInBounds_toArray, List.set_cons_zero, List.set_cons_succ]) (hCont (W.heap.size, wA.heap.size, AA, cA, AV, cV) _ HT.out)
              · skip
                refine event_step (v := .slice (some ⟨(W.alloc (.cells #[.int .i64 x.1] 2)).heap.size, 0, none⟩) 1 1) (w1 := (W.alloc (.cells #[.int .i64 x.1] 2)).alloc (.cells #[.int .i64 x.2] 2)) (by rfl) (by first | (go_simp; done) | (go_simp; rfl)) ?_
                have HLV := Aside0.mk (HT.out.lit x.2)
                have HLA := Aside0.mk (HLA.out.alloc (.cells #[.int .i64 x.2] 2))
                have HT := Aside0.mk (HT.out.alloc (.cells #[.int .i64 x.2] 2))
                refine hK.out _ _ (HSP.out _ HT.out.blk HT.out.bel) (fun hHeld => ?_)
                clear hK K
                refine norm_ (a' := ?_) ?_ ?_
                rotate_left
                · show Act.put _ (some 42) _ = _
                  simp only [Act.put, List.setIfInBounds_toArray, List.set_cons_zero, List.set_cons_succ, i64_w, i32_w]
                  rfl
                refine one_ (i := 4) (N := some 34) #[true, true, true, true, true, true, true, true, true, true, true, true, true, false, false, false, false, false] rfl rfl (one_of HT_.out (by kernel_rfl)) (by decide) (fun K hK => ?_)
                refine TC.appA (W := ((W.alloc (.cells #[.int .i64 x.1] 2)).alloc (.cells #[.int .i64 x.2] 2))) (p := x.1) (n := W.heap.size) HT.out HLA.out (by rfl) (.tmp 31) (.tmp 33) 33 (by rfl) Try.underlying33 info2 (by rfl) (by rfl) HLX.out ?_
                intro AA cA wA hT1 hL1
                have HT := Aside0.mk hT1
                have HLV := Aside0.mk (hL1 _ _ HLV.out)
                clear hT1 hL1
                refine hK.out _ _ (HSP.out _ HT.out.blk HT.out.bel) (fun hHeld => ?_)
                clear hK K
                refine norm_ (a' := ?_) ?_ ?_
                rotate_left
                · show Act.put _ (some 34) _ = _
                  simp only [Act.put, List.setIfInBounds_toArray, List.set_cons_zero, List.set_cons_succ, i64_w, i32_w]
                  rfl
                refine pure_ (i := 14) (N := some 44) (v := ?_) (a' := ?_) #[true, true, true, true, true, true, true, true, true, true, true, true, true, false, true, false, false, false] rfl rfl (any_of HT_.out (by kernel_rfl)) (fun _ _ _ h => h) (Or.inl ⟨by rfl, ?_⟩) ?_ ?_
                rotate_left
                · intro w'
                  go_simp
                  with_reducible rfl
                rotate_left
                · simp only [Act.put, List.setIfInBounds_toArray, List.set_cons_zero, List.set_cons_succ, i64_w, i32_w]
                  rfl
                refine one_ (i := 13) (N := some 43) #[true, true, true, true, true, true, true, true, true, true, true, true, true, true, true, false, false, false] rfl rfl (one_of HT_.out (by kernel_rfl)) (by decide) (fun K hK => ?_)
                refine TC.appV (W := wA) (p := x.2) (n := (W.alloc (.cells #[.int .i64 x.1] 2)).heap.size) HT.out HLV.out (by rfl) (.tmp 36) (.tmp 42) 33 (by rfl) Try.underlying33 info2 (by rfl) (by rfl) HLY.out ?_
                intro AV cV wV hT1 hL1
                have HT := Aside0.mk hT1
                clear hT1 hL1
                refine hK.out _ _ (HSP.out _ HT.out.blk HT.out.bel) (fun hHeld => ?_)
                clear hK K
                refine norm_ (a' := ?_) ?_ ?_
                rotate_left
                · show Act.put _ (some 43) _ = _
                  simp only [Act.put, List.setIfInBounds_toArray, List.set_cons_zero, List.set_cons_succ, i64_w, i32_w]
                  rfl
                exact norm_ (by simp only [putAll, Act.put, List.setIfInBounds_toArray, List.set_cons_zero, List.set_cons_succ]) (hCont (W.heap.size, (W.alloc (.cells #[.int .i64 x.1] 2)).heap.size, AA, cA, AV, cV) _ HT.out)
            · skip
              refine event_step (v := .slice (some ⟨W.heap.size, 0, none⟩) 1 1) (w1 := W.alloc (.cells #[.int .i64 x.2] 2)) (by rfl) (by first | (go_simp; done) | (go_simp; rfl)) ?_
              have HLV := Aside0.mk (HT.out.lit x.2)
              have HT := Aside0.mk (HT.out.alloc (.cells #[.int .i64 x.2] 2))
              refine hK.out _ _ (HSP.out _ HT.out.blk HT.out.bel) (fun hHeld => ?_)
              clear hK K
              refine norm_ (a' := ?_) ?_ ?_
              rotate_left
              · show Act.put _ (some 42) _ = _
                simp only [Act.put, List.setIfInBounds_toArray, List.set_cons_zero, List.set_cons_succ, i64_w, i32_w]
                rfl
              refine one_ (i := 3) (N := some 33) #[true, true, true, true, false, true, true, true, true, true, true, true, true, false, false, false, false, false] rfl rfl (one_of HT_.out (by kernel_rfl)) (by decide) (fun K hK => ?_)
              refine event_step (v := .slice (some ⟨(W.alloc (.cells #[.int .i64 x.2] 2)).heap.size, 0, none⟩) 1 1) (w1 := (W.alloc (.cells #[.int .i64 x.2] 2)).alloc (.cells #[.int .i64 x.1] 2)) (by rfl) (by first | (go_simp; done) | (go_simp; rfl)) ?_
              have HLA := Aside0.mk (HT.out.lit x.1)
              have HLV := Aside0.mk (HLV.out.alloc (.cells #[.int .i64 x.1] 2))
              have HT := Aside0.mk (HT.out.alloc (.cells #[.int .i64 x.1] 2))
              refine hK.out _ _ (HSP.out _ HT.out.blk HT.out.bel) (fun hHeld => ?_)
              clear hK K
              refine norm_ (a' := ?_) ?_ ?_
              rotate_left
              · show Act.put _ (some 33) _ = _
                simp only [Act.put, List.setIfInBounds_toArray, List.set_cons_zero, List.set_cons_succ, i64_w, i32_w]
                rfl
              refine one_ (i := 4) (N := some 34) #[true, true, true, true, true, true, true, true, true, true, true, true, true, false, false, false, false, false] rfl rfl (one_of HT_.out (by kernel_rfl)) (by decide) (fun K hK => ?_)
              refine TC.appA (W := ((W.alloc (.cells #[.int .i64 x.2] 2)).alloc (.cells #[.int .i64 x.1] 2))) (p := x.1) (n := (W.alloc (.cells #[.int .i64 x.2] 2)).heap.size) HT.out HLA.out (by rfl) (.tmp 31) (.tmp 33) 33 (by rfl) Try.underlying33 info2 (by rfl) (by rfl) HLX.out ?_
              intro AA cA wA hT1 hL1
              have HT := Aside0.mk hT1
              have HLV := Aside0.mk (hL1 _ _ HLV.out)
              clear hT1 hL1
              refine hK.out _ _ (HSP.out _ HT.out.blk HT.out.bel) (fun hHeld => ?_)
              clear hK K
              refine norm_ (a' := ?_) ?_ ?_
              rotate_left
              · show Act.put _ (some 34) _ = _
                simp only [Act.put, List.setIfInBounds_toArray, List.set_cons_zero, List.set_cons_succ, i64_w, i32_w]
                rfl
              refine pure_ (i := 14) (N := some 44) (v := ?_) (a' := ?_) #[true, true, true, true, true, true, true, true, true, true, true, true, true, false, true, false, false, false] rfl rfl (any_of HT_.out (by kernel_rfl)) (fun _ _ _ h => h) (Or.inl ⟨by rfl, ?_⟩) ?_ ?_
              rotate_left
              · intro w'
                go_simp
                with_reducible rfl
              rotate_left
              · simp only [Act.put, List.setIfInBounds_toArray, List.set_cons_zero, List.set_cons_succ, i64_w, i32_w]
                rfl
              refine one_ (i := 13) (N := some 43) #[true, true, true, true, true, true, true, true, true, true, true, true, true, true, true, false, false, false] rfl rfl (one_of HT_.out (by kernel_rfl)) (by decide) (fun K hK => ?_)
              refine TC.appV (W := wA) (p := x.2) (n := W.heap.size) HT.out HLV.out (by rfl) (.tmp 36) (.tmp 42) 33 (by rfl) Try.underlying33 info2 (by rfl) (by rfl) HLY.out ?_
              intro AV cV wV hT1 hL1
              have HT := Aside0.mk hT1
              clear hT1 hL1
              refine hK.out _ _ (HSP.out _ HT.out.blk HT.out.bel) (fun hHeld => ?_)
              clear hK K
              refine norm_ (a' := ?_) ?_ ?_
              rotate_left
              · show Act.put _ (some 43) _ = _
                simp only [Act.put, List.setIfInBounds_toArray, List.set_cons_zero, List.set_cons_succ, i64_w, i32_w]
                rfl
              exact norm_ (by simp only [putAll, Act.put, List.setIfInBounds_toArray, List.set_cons_zero, List.set_cons_succ]) (hCont ((W.alloc (.cells #[.int .i64 x.2] 2)).heap.size, W.heap.size, AA, cA, AV, cV) _ HT.out)
          · skip
            rintro ⟨nA, nV, A1_, c1_, A2_, c2_⟩ w_ hT_
            have HT := Aside0.mk hT_
            clear hT_
            simp only [putAll, Act.put, List.setIfInBounds_toArray, List.set_cons_zero, List.set_cons_succ]
            -- 15: _ := store 33 t44 t34 : 0 
            refine last_ (i := 15) (N := none) #[true, true, true, true, true, true, true, true, true, true, true, true, true, true, true, true, false, false] rfl rfl (one_of HT_.out (by kernel_rfl)) (by decide) (fun K hK => ?_)
            have z0 := (blk_cell HT.out.blk 0).trans (rfl : _ = some (vA))
            have f0 := blk_frozen HT.out.blk 0
            refine skip_ (w1 := w_.setCell ⟨g, 0, none⟩ (.slice A1_ ((k1 acc).length + 1) c1_)) (by rfl) rfl (by first | (go_simp; done) | (go_simp; rfl)) ?_
            have HT := Aside0.mk (HT.out.set0 (.slice A1_ ((k1 acc).length + 1) c1_))
            refine hK.out _ _ ?_
            clear hK K z0 f0
            -- 16: t45 := fieldAddr 56 t9 1 : 0 
            refine pure_ (i := 16) (N := some 45) (v := ?_) (a' := ?_) #[true, true, true, true, true, true, true, true, true, true, true, true, true, true, true, true, true, false] rfl rfl (any_of HT_.out (by kernel_rfl)) (fun _ _ _ h => h) (Or.inl ⟨by rfl, ?_⟩) ?_ ?_
            rotate_left
            · intro w'
              go_simp
              with_reducible rfl
            rotate_left
            · simp only [Act.put, List.setIfInBounds_toArray, List.set_cons_zero, List.set_cons_succ, i64_w, i32_w]
              rfl
            -- 17: _ := store 33 t45 t43 : 0 
            refine last_ (i := 17) (N := none) #[true, true, true, true, true, true, true, true, true, true, true, true, true, true, true, true, true, true] rfl rfl (one_of HT_.out (by kernel_rfl)) (by decide) (fun K hK => ?_)
            have z0 := (blk_cell HT.out.blk 1).trans (rfl : _ = some (vV))
            have f0 := blk_frozen HT.out.blk 1
            refine skip_ (w1 := (w_.setCell ⟨g, 0, none⟩ (.slice A1_ ((k1 acc).length + 1) c1_)).setCell ⟨g, 1, none⟩ (.slice A2_ ((k2 acc).length + 1) c2_)) (by rfl) rfl (by first | (go_simp; done) | (go_simp; rfl)) ?_
            have HT := Aside0.mk (HT.out.set1 (.slice A2_ ((k2 acc).length + 1) c2_))
            refine hK.out _ _ ?_
            clear hK K z0 f0
            refine done_ (done_of HT_.out (by kernel_rfl)) ?_
            go_wp2
            go_roundg (l.length - (i + 1))
            case measure => have := hq.out; omega
            case rel => exact ⟨i + 1, acc ++ [x], _, _, by omega, ⟨rfl⟩, by go_num, HFS, ⟨by rw [k1_snoc, k2_snoc]; exact HT.out⟩⟩
        | false =>
          have HFS := Aside0.mk (show (l.take (i + 1)).filter (pt lo hi false) = acc by rw [HFS.out, if_neg (show ¬ pt lo hi false x = true by rw [ptT (inR_f1 h1)]; decide)])
          go_wp2
          go_roundg (l.length - (i + 1))
          case measure => have := hq.out; omega
          case rel => exact ⟨i + 1, acc, vA, vV, by omega, ⟨rfl⟩, by go_num, HFS, HT⟩
    · have hkl : i = l.length := by omega
      subst hkl
      rw [List.take_length] at HFA
      have HINS := HFA
      clear q1 hlt hi_ hq HFA HLS B31 B3
      have B6z := Aside0.mk ((HT.out.bel.block _ (blk_lt B6.out)).trans B6.out)
      obtain ⟨B1_, d1_, hv1⟩ := Kd.R_slice HT.out.rA
      obtain ⟨B2_, d2_, hv2⟩ := Kd.R_slice HT.out.rV
      rw [k1_len] at hv1
      rw [k2_len] at hv2
      subst hv1; subst hv2
      have b1 := blk_set B6z.out 0 (.slice B1_ acc.length d1_)
      have b2 := blk_set b1 1 (.slice B2_ acc.length d2_)
      have x0 := (blk_cell HT.out.blk 0).trans (rfl : _ = some (Value.slice B1_ acc.length d1_))
      have x1 := (blk_cell HT.out.blk 1).trans (rfl : _ = some (Value.slice B2_ acc.length d2_))
      have y0 := (blk_cell B6z.out 0).trans (rfl : _ = some (Value.slice none 0 0))
      have y1 := (blk_cell b1 1).trans (rfl : _ = some (Value.slice none 0 0))
      have f0 := blk_frozen B6z.out 0
      have f1 := blk_frozen b1 1
      have r0 := (blk_cell b2 0).trans (rfl : _ = some (Value.slice B1_ acc.length d1_))
      have r1 := (blk_cell b2 1).trans (rfl : _ = some (Value.slice B2_ acc.length d2_))
      have HRA := Aside0.mk (Kd.R_set (Kd.R_set HT.out.rA B6z.out (by decide) 0 (.slice B1_ acc.length d1_)) b1 (by decide) 1 (.slice B2_ acc.length d2_))
      have HRV := Aside0.mk (Kd.R_set (Kd.R_set HT.out.rV B6z.out (by decide) 0 (.slice B1_ acc.length d1_)) b1 (by decide) 1 (.slice B2_ acc.length d2_))
      have HBF := Aside0.mk (((below_then HW3.out HW3.out.size HT.out.bel).setCell (p := ⟨w.heap.size + 1, 0, none⟩) (by simp) (.slice B1_ acc.length d1_)).setCell (p := ⟨w.heap.size + 1, 1, none⟩) (by simp) (.slice B2_ acc.length d2_))
      have HLL := Aside0.mk (show LR _ w.heap.size B1_ d1_ B2_ d2_ acc from ⟨Kd.R_mono (Kd.R_lower HRA.out HW3.out.size) (fun _ _ => trivial), Kd.R_mono (Kd.R_lower HRV.out HW3.out.size) (fun _ _ => trivial)⟩)
      clear HRA HRV b1 b2
      go_wp2
      refine bodyPost_ret (by simp [results, Try.results27, go_sem, r0, r1]; try rfl) rfl ?_
      exact ⟨B1_, d1_, B2_, d2_, by rw [HINS.out], by rw [HINS.out]; exact HLL.out, HBF.out⟩
end Go.Proofs.Ytoigekmdicepnaa
