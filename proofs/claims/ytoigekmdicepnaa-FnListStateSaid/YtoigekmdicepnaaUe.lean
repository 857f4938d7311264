/- Contract: a value is added to an ordered list of the reference. -/
import Derived.Test.YtoigekmdicepnaaUd
import Derived.Test.YtoigekmdicepnaaUa
set_option linter.unusedVariables false
set_option linter.unusedSimpArgs false
namespace Go.Proofs.Ytoigekmdicepnaa
open Go.RowKit Go.Proofs.YtoigekmdicepnaaW.PrintWords Go.Proofs.YtoigekmdicepnaaW.PrintLast Go.Proofs.YtoigekmdicepnaaW.PrintMore
open Go.Proofs.Ytoigekmdicepnaa.Ord (E2 ins isort Tx inR tx1 replay Asc Down addF)
def k1 (l : List E2) : List Int := l.map (fun x => x.1)
def k2 (l : List E2) : List Int := l.map (fun x => x.2)
theorem k1_len (l : List E2) : (k1 l).length = l.length := List.length_map _
theorem k2_len (l : List E2) : (k2 l).length = l.length := List.length_map _
theorem k1_snoc (l : List E2) (x : E2) : k1 (l ++ [x]) = k1 l ++ [x.1] := by unfold k1; rw [List.map_append]; rfl
theorem k2_snoc (l : List E2) (x : E2) : k2 (l ++ [x]) = k2 l ++ [x.2] := by unfold k2; rw [List.map_append]; rfl
theorem k1_rd (l : List E2) (i : Nat) (h : i < l.length) : rdI (k1 l) i = (rdE l i).1 := by simp [k1, rdI, rdE, List.getD_eq_getElem?_getD, h]
theorem k2_rd (l : List E2) (i : Nat) (h : i < l.length) : rdI (k2 l) i = (rdE l i).2 := by simp [k2, rdI, rdE, List.getD_eq_getElem?_getD, h]
/-- A list of the reference in memory. -/
structure LS (w : World) (A1 : Option Addr) (c1 : Nat) (A2 : Option Addr) (c2 : Nat) (l : List E2) : Prop where
  a : (Kd.int .i64).C w A1 l.length (k1 l)
  v : (Kd.int .i64).C w A2 l.length (k2 l)
  ca : l.length ≤ c1
  cv : l.length ≤ c2
theorem LS.below {w w' : World} {A1 A2 : Option Addr} {c1 c2 : Nat} {l : List E2} (h : LS w A1 c1 A2 c2 l) (hb : Below w.heap.size w w') : LS w' A1 c1 A2 c2 l := ⟨Kd.C_below h.a hb, Kd.C_below h.v hb, h.ca, h.cv⟩
theorem LS.at {w : World} {A1 A2 : Option Addr} {c1 c2 : Nat} {l : List E2} (h : LS w A1 c1 A2 c2 l) (i : Nat) (hi : i < l.length) : ∃ ad av, A1 = some ad ∧ A2 = some av ∧ w.cell? (ad.add i) = some (.int .i64 (rdE l i).1) ∧ w.cell? (av.add i) = some (.int .i64 (rdE l i).2) := by
  obtain ⟨ad, e1, x1⟩ := atI (xs := k1 l) (by rw [k1_len]; exact h.a) i (by rw [k1_len]; exact hi)
  obtain ⟨av, e2, x2⟩ := atI (xs := k2 l) (by rw [k2_len]; exact h.v) i (by rw [k2_len]; exact hi)
  rw [k1_rd l i hi] at x1
  rw [k2_rd l i hi] at x2
  exact ⟨ad, av, e1, e2, x1, x2⟩
/-- A list of the reference whose rows are the call's own. -/
structure LR (w : World) (base : Nat) (A1 : Option Addr) (c1 : Nat) (A2 : Option Addr) (c2 : Nat) (l : List E2) : Prop where
  a : (Kd.int .i64).R 2 w base (fun _ => True) (.slice A1 l.length c1) (k1 l)
  v : (Kd.int .i64).R 2 w base (fun _ => True) (.slice A2 l.length c2) (k2 l)
theorem LR.ls {w : World} {base : Nat} {A1 A2 : Option Addr} {c1 c2 : Nat} {l : List E2} (h : LR w base A1 c1 A2 c2 l) : LS w A1 c1 A2 c2 l :=
  ⟨by have h := (Kd.R_reads' h.a).2.2; rw [k1_len] at h; exact h, by have h := (Kd.R_reads' h.v).2.2; rw [k2_len] at h; exact h, (Kd.R_reads' h.a).2.1, (Kd.R_reads' h.v).2.1⟩
theorem LR.below {w w' : World} {base : Nat} {A1 A2 : Option Addr} {c1 c2 : Nat} {l : List E2} (h : LR w base A1 c1 A2 c2 l) (hb : Below w.heap.size w w') : LR w' base A1 c1 A2 c2 l := ⟨Kd.R_below h.a hb, Kd.R_below h.v hb⟩
theorem LR.lower {w : World} {base b' : Nat} {A1 A2 : Option Addr} {c1 c2 : Nat} {l : List E2} (h : LR w base A1 c1 A2 c2 l) (hb : b' ≤ base) : LR w b' A1 c1 A2 c2 l := ⟨Kd.R_lower h.a hb, Kd.R_lower h.v hb⟩
theorem LR.set {w : World} {base g t : Nat} {cells : Array Value} {A1 A2 : Option Addr} {c1 c2 : Nat} {l : List E2} (h : LR w base A1 c1 A2 c2 l) (hb : w.heap[g]? = some (.cells cells t (0, 0))) (ht : ∀ q, q ∈ 2 :: (Kd.int .i64).E → q ≠ t) (j : Nat) (u : Value) : LR (w.setCell ⟨g, j, none⟩ u) base A1 c1 A2 c2 l := ⟨Kd.R_set h.a hb ht j u, Kd.R_set h.v hb ht j u⟩
theorem LR.nil (w : World) (base : Nat) : LR w base none 0 none 0 [] := ⟨Kd.R_nil _ _ _ _ _, Kd.R_nil _ _ _ _ _⟩
def fa (a v : Int) (l : List E2) : List E2 × Bool := l.foldl (addF a v) ([], false)
theorem fa_succ (a v : Int) (l : List E2) (i : Nat) (h : i < l.length) : fa a v (l.take (i + 1)) = addF a v (fa a v (l.take i)) (rdE l i) := by
  unfold fa; rw [takeE_succ l i h, List.foldl_append]; rfl
theorem fa_len (a v : Int) : ∀ (l : List E2) (acc : List E2 × Bool), (l.foldl (addF a v) acc).1.length ≤ acc.1.length + 2 * l.length
  | [], acc => Nat.le_refl _
  | x :: l, acc => by
    have h := fa_len a v l (addF a v acc x)
    have h2 : (addF a v acc x).1.length ≤ acc.1.length + 2 := by unfold addF; split <;> simp
    rw [List.foldl_cons, List.length_cons]; omega
def stateAdd_any.T7 : Bool × List (List Nat × List Nat) := (true, [([], []), ([0], [0]), ([], []), ([2], [2]), ([1, 3], [1, 3]), ([], []), ([5], [5]), ([], []), ([7], [7]), ([6, 8, 4], [6, 8]), ([0, 1, 2, 3, 4, 5, 6], []), ([10, 4, 9, 0, 1, 2, 3, 4, 5, 6], [4, 10]), ([0, 1, 2, 3, 4, 5, 6, 7, 8, 9, 10, 11], []), ([12, 9, 11, 0, 1, 2, 3, 4, 5, 6, 7, 8, 9, 10, 11], [9, 12]), ([13, 0, 1, 2, 3, 4, 5, 6, 7, 8, 9, 10, 11, 12, 13], [])])
def stateAdd_any.B7 : List Nat := [0, 1, 0, 4, 15, 0, 32, 0, 128, 511, 127, 2047, 4095, 8191, 16383]
theorem stateAdd_any.tab7 : rtab .any (opsOf Try.f25 7) = stateAdd_any.T7 := by kernel_rfl
theorem stateAdd_any.bits7 : waitsOk stateAdd_any.T7.2 stateAdd_any.B7 = true := by kernel_rfl
def stateAdd_any.T8 : Bool × List (List Nat × List Nat) := (true, [([], []), ([0], [0]), ([], []), ([2], [2]), ([], []), ([3, 4], [3, 4]), ([5], [5]), ([6], [6]), ([1, 7], [1, 7]), ([], []), ([9], [9]), ([], []), ([11], [11]), ([], []), ([12, 13], [12, 13]), ([14], [14]), ([15], [15]), ([10, 16, 8], [10, 16]), ([0, 1, 2, 3, 4, 5, 6, 7, 8, 9, 10], []), ([18, 8, 17, 0, 1, 2, 3, 4, 5, 6, 7, 8, 9, 10], [8, 18]), ([0, 1, 2, 3, 4, 5, 6, 7, 8, 9, 10, 11, 12, 13, 14, 15, 16, 17, 18, 19], []), ([20, 17, 19, 0, 1, 2, 3, 4, 5, 6, 7, 8, 9, 10, 11, 12, 13, 14, 15, 16, 17, 18, 19], [17, 20])])
def stateAdd_any.B8 : List Nat := [0, 1, 0, 4, 0, 28, 60, 124, 255, 0, 512, 0, 2048, 0, 14336, 30720, 63488, 131071, 2047, 524287, 1048575, 2097151]
theorem stateAdd_any.tab8 : rtab .any (opsOf Try.f25 8) = stateAdd_any.T8 := by kernel_rfl
theorem stateAdd_any.bits8 : waitsOk stateAdd_any.T8.2 stateAdd_any.B8 = true := by kernel_rfl
def stateAdd_any.T11 : Bool × List (List Nat × List Nat) := (true, [([], []), ([0], [0]), ([], []), ([2], [2]), ([1, 3], [1, 3]), ([], []), ([5], [5]), ([], []), ([7], [7]), ([6, 8, 4], [6, 8]), ([0, 1, 2, 3, 4, 5, 6], []), ([10, 4, 9, 0, 1, 2, 3, 4, 5, 6], [4, 10]), ([0, 1, 2, 3, 4, 5, 6, 7, 8, 9, 10, 11], []), ([12, 9, 11, 0, 1, 2, 3, 4, 5, 6, 7, 8, 9, 10, 11], [9, 12])])
def stateAdd_any.B11 : List Nat := [0, 1, 0, 4, 15, 0, 32, 0, 128, 511, 127, 2047, 4095, 8191]
theorem stateAdd_any.tab11 : rtab .any (opsOf Try.f25 11) = stateAdd_any.T11 := by kernel_rfl
theorem stateAdd_any.bits11 : waitsOk stateAdd_any.T11.2 stateAdd_any.B11 = true := by kernel_rfl
set_option maxRecDepth 100000 in
set_option maxHeartbeats 8000000 in
theorem stateAdd_any (A1 : Option Addr) (c1 : Nat) (A2 : Option Addr) (c2 : Nat) (l : List E2) (a v : Int) (w : World) (h : LS w A1 c1 A2 c2 l) (hl : l.length ≤ 2147483647) :
    Calls Try.prog 25 #[.agg #[.slice A1 l.length c1, .slice A2 l.length c2], .int .i64 a, .int .i64 v] w fun e w' => ∃ B1 d1 B2 d2, e = .returned (.agg #[.slice B1 (ins a v l).length d1, .slice B2 (ins a v l).length d2]) ∧ LR w' w.heap.size B1 d1 B2 d2 (ins a v l) ∧ Below w.heap.size w w' := by
  have HLS := Aside0.mk h
  have HL := Aside0.mk hl
  clear h hl
  go_enter Try.func25, Try.ntmps25
  go_wp2_with fail
  have HT0 := Aside0.mk (show TC ((w.alloc (.cells #[.slice A1 l.length c1, .slice A2 l.length c2] 56)).alloc (.cells #[.slice none 0 0, .slice none 0 0] 56)) ((w.alloc (.cells #[.slice A1 l.length c1, .slice A2 l.length c2] 56)).alloc (.cells #[.slice none 0 0, .slice none 0 0] 56)).heap.size (w.heap.size + 1 + 1) (.slice none 0 0) (.slice none 0 0) (.slice none 0 0) (.slice none 0 0) [] [] (((w.alloc (.cells #[.slice A1 l.length c1, .slice A2 l.length c2] 56)).alloc (.cells #[.slice none 0 0, .slice none 0 0] 56)).alloc (.cells #[.slice none 0 0, .slice none 0 0] 56)) from ⟨by have h := heap_alloc_new ((w.alloc (.cells #[.slice A1 l.length c1, .slice A2 l.length c2] 56)).alloc (.cells #[.slice none 0 0, .slice none 0 0] 56)) (.cells #[.slice none 0 0, .slice none 0 0] 56); rw [World.size_alloc, World.size_alloc] at h; exact h, Kd.R_nil _ _ _ _ _, Kd.R_nil _ _ _ _ _, below_alloc (Below.refl _ _) _, by rw [World.size_alloc, World.size_alloc]; exact Nat.le_refl _⟩)
  have HW3 := Aside0.mk (show Below w.heap.size w ((w.alloc (.cells #[.slice A1 l.length c1, .slice A2 l.length c2] 56)).alloc (.cells #[.slice none 0 0, .slice none 0 0] 56)) from below_alloc (below_alloc (Below.refl _ _) _) _)
  have B3 := Aside0.mk (show ((w.alloc (.cells #[.slice A1 l.length c1, .slice A2 l.length c2] 56)).alloc (.cells #[.slice none 0 0, .slice none 0 0] 56)).heap[w.heap.size]? = some (.cells #[.slice A1 l.length c1, .slice A2 l.length c2] 56 (0, 0)) from blk_alloc (heap_alloc_new w _) _)
  have B6 := Aside0.mk (show ((w.alloc (.cells #[.slice A1 l.length c1, .slice A2 l.length c2] 56)).alloc (.cells #[.slice none 0 0, .slice none 0 0] 56)).heap[w.heap.size + 1]? = some (.cells #[.slice none 0 0, .slice none 0 0] 56 (0, 0)) by have h := heap_alloc_new (w.alloc (.cells #[.slice A1 l.length c1, .slice A2 l.length c2] 56)) (.cells #[.slice none 0 0, .slice none 0 0] 56); rw [World.size_alloc] at h; exact h)
  have HLS := Aside0.mk (HLS.out.below HW3.out)
  obtain ⟨w3, hw3⟩ : ∃ w3, w3 = ((w.alloc (.cells #[.slice A1 l.length c1, .slice A2 l.length c2] 56)).alloc (.cells #[.slice none 0 0, .slice none 0 0] 56)) := ⟨_, rfl⟩
  rw [← hw3] at HT0 HW3 B3 B6 HLS ⊢
  obtain ⟨g, hg⟩ : ∃ g, g = w.heap.size + 1 + 1 := ⟨_, rfl⟩
  rw [← hg] at HT0 ⊢
  clear hw3 hg
  have B30 := Aside0.mk ((blk_cell B3.out 0).trans (rfl : _ = some (Value.slice A1 l.length c1)))
  have B31 := Aside0.mk ((blk_cell B3.out 1).trans (rfl : _ = some (Value.slice A2 l.length c2)))
  go_loopg [8, 13] l.length (fun kq v8 v13 w' => ∃ (i : Nat) (acc : List E2) (d : Bool) (vA vV : Value), i ≤ l.length ∧ Aside0 (kq = l.length - i) ∧ v8 = .bool d ∧ v13 = .int .i64 i ∧ Aside0 (fa a v (l.take i) = (acc, d)) ∧ Aside0 (TC w3 w3.heap.size g vA vV vA vV (k1 acc) (k2 acc) w'))
  case atStart => exact ⟨0, [], false, _, _, Nat.zero_le _, ⟨by simp⟩, rfl, rfl, ⟨rfl⟩, HT0⟩
  case round =>
    clear HT0
    obtain ⟨i, acc, d, vA, vV, hi_, hq, rfl, rfl, HFA, HT⟩ := hrel
    have q1 : (l.length : Int) ≤ 2147483647 := by have := HL.out; omega
    have HAL := Aside0.mk (show acc.length ≤ 4294967294 by have h := fa_len a v (l.take i) ([], false); rw [show (l.take i).foldl (addF a v) ([], false) = (acc, d) from HFA.out, List.length_take] at h; simp only [List.length_nil] at h; have := HL.out; omega)
    by_cases hlt : i < l.length
    · obtain ⟨ad, av, ea, ev, y0, y1⟩ := HLS.out.at i hlt
      subst ea; subst ev
      have HFS := Aside0.mk (fa_succ a v l i hlt)
      generalize rdE l i = x at y0 y1 HFS
      have Y0 := Aside0.mk y0
      have Y1 := Aside0.mk y1
      rw [HFA.out] at HFS
      have s0 := (HT.out.bel.cell (World.block_lt_of_cell? w3 _ B30.out)).trans B30.out
      have s2 := (HT.out.bel.cell (World.block_lt_of_cell? w3 _ Y0.out)).trans Y0.out
      clear y0 y1
      by_cases hc : a < x.1
      · cases d with
        | false =>
          have HFS := Aside0.mk (show fa a v (l.take (i + 1)) = (acc ++ [(a, v)] ++ [x], true) by rw [HFS.out]; unfold addF; rw [if_pos ⟨hc, rfl⟩]; simp)
          go_wp2_with fail
          have HSP := Aside0.mk (fun (z : World) (h1 : z.heap[g]? = some (.cells #[vA, vV] 56 (0, 0))) (h2 : Below w3.heap.size w3 z) => (⟨(blk_cell h1 0).trans rfl, (blk_cell h1 1).trans rfl⟩ : z.cell? ⟨g, 0, none⟩ = some (vA) ∧ z.cell? ⟨g, 1, none⟩ = some (vV)))
          have K0 := HSP.out _ HT.out.drew.blk HT.out.drew.bel
          have HLX := Aside0.mk (show ((k1 acc).length + 1) * 8 ≤ 140737488355328 by rw [k1_len]; have := HAL.out; omega)
          have HLY := Aside0.mk (show ((k2 acc).length + 1) * 8 ≤ 140737488355328 by rw [k2_len]; have := HAL.out; omega)
          refine start_ (n := 15) (S := fun w' => w'.cell? ⟨g, 0, none⟩ = some (vA) ∧ w'.cell? ⟨g, 1, none⟩ = some (vV)) (ds := [11, 13]) #[false, false, false, false, false, false, false, false, false, false, false, false, false, false, false] (by kernel_rfl) rfl rfl K0 (fun hHeld => ?_)
          refine with_tabW stateAdd_any.tab7 stateAdd_any.bits7 (fun HT_ HW_ => ?_)
          have HT := Aside0.mk HT.out.drew
          clear K0
          generalize (wr).drew = W at HT hHeld ⊢
          -- 0: t27 := fieldAddr 56 t7 0 : 0 
          refine pure_ (i := 0) (N := some 27) (v := ?_) (a' := ?_) #[true, false, false, false, false, false, false, false, false, false, false, false, false, false, false] rfl rfl (any_of HT_.out (by kernel_rfl)) (fun _ _ _ h => h) (Or.inl ⟨by rfl, ?_⟩) ?_ ?_
          rotate_left
          · intro w'
            go_simp
            with_reducible rfl
          rotate_left
          · simp only [Act.put, List.setIfInBounds_toArray, List.set_cons_zero, List.set_cons_succ, i64_w, i32_w]
            rfl
          -- 2: t29 := move t1 : 2 
          refine pure_ (i := 2) (N := some 29) (v := ?_) (a' := ?_) #[true, false, true, false, false, false, false, false, false, false, false, false, false, false, false] rfl rfl (any_of HT_.out (by kernel_rfl)) (fun _ _ _ h => h) (Or.inl ⟨by rfl, ?_⟩) ?_ ?_
          rotate_left
          · intro w'
            go_simp
            with_reducible rfl
          rotate_left
          · simp only [Act.put, List.setIfInBounds_toArray, List.set_cons_zero, List.set_cons_succ, i64_w, i32_w]
            rfl
          -- 5: t32 := fieldAddr 56 t7 1 : 0 
          refine pure_ (i := 5) (N := some 32) (v := ?_) (a' := ?_) #[true, false, true, false, false, true, false, false, false, false, false, false, false, false, false] rfl rfl (any_of HT_.out (by kernel_rfl)) (fun _ _ _ h => h) (Or.inl ⟨by rfl, ?_⟩) ?_ ?_
          rotate_left
          · intro w'
            go_simp
            with_reducible rfl
          rotate_left
          · simp only [Act.put, List.setIfInBounds_toArray, List.set_cons_zero, List.set_cons_succ, i64_w, i32_w]
            rfl
          -- 7: t34 := move t2 : 2 
          refine pure_ (i := 7) (N := some 34) (v := ?_) (a' := ?_) #[true, false, true, false, false, true, false, true, false, false, false, false, false, false, false] rfl rfl (any_of HT_.out (by kernel_rfl)) (fun _ _ _ h => h) (Or.inl ⟨by rfl, ?_⟩) ?_ ?_
          rotate_left
          · intro w'
            go_simp
            with_reducible rfl
          rotate_left
          · simp only [Act.put, List.setIfInBounds_toArray, List.set_cons_zero, List.set_cons_succ, i64_w, i32_w]
            rfl
          -- 1: t28 := load 33 t27 : 33 
          refine take_ (i := 1) (N := some 28) (v := ?_) (a' := ?_) #[true, true, true, false, false, true, false, true, false, false, false, false, false, false, false] rfl rfl (take_ofW HT_.out HW_.out (by kernel_rfl)) (fun _ _ _ h => h) (Or.inl ⟨by rfl, ?_⟩) hHeld ?_ ?_
          rotate_left
          · rintro w' ⟨s0, s1⟩
            go_simp
            with_reducible rfl
          rotate_left
          · simp only [Act.put, List.setIfInBounds_toArray, List.set_cons_zero, List.set_cons_succ, i64_w, i32_w]
            rfl
          -- 6: t33 := load 33 t32 : 33 
          refine take_ (i := 6) (N := some 33) (v := ?_) (a' := ?_) #[true, true, true, false, false, true, true, true, false, false, false, false, false, false, false] rfl rfl (take_ofW HT_.out HW_.out (by kernel_rfl)) (fun _ _ _ h => h) (Or.inl ⟨by rfl, ?_⟩) hHeld ?_ ?_
          rotate_left
          · rintro w' ⟨s0, s1⟩
            go_simp
            with_reducible rfl
          rotate_left
          · simp only [Act.put, List.setIfInBounds_toArray, List.set_cons_zero, List.set_cons_succ, i64_w, i32_w]
            rfl
          refine join_ (σ := (Nat × Nat × Option Addr × Nat × Option Addr × Nat)) 4 #[true, true, true, true, true, true, true, true, true, true, true, false, false, false, false] (fun s_ => [(30, .slice (some ⟨s_.1, 0, none⟩) 1 1), (31, .slice s_.2.2.1 ((k1 acc).length + 1) s_.2.2.2.1), (35, .slice (some ⟨s_.2.1, 0, none⟩) 1 1), (36, .slice s_.2.2.2.2.1 ((k2 acc).length + 1) s_.2.2.2.2.2), (37, .pointer (some ⟨g, 0, none⟩))]) (fun s_ w' => TC w3 w3.heap.size g vA vV (.slice s_.2.2.1 ((k1 acc).length + 1) s_.2.2.2.1) (.slice s_.2.2.2.2.1 ((k2 acc).length + 1) s_.2.2.2.2.2) (k1 acc ++ [a]) (k2 acc ++ [v]) w') ?_ ?_
          rotate_left
          · intro hCont
            refine two_ (i := 3) (j := 8) (Ni := some 30) (Nj := some 35) #[true, true, true, true, false, true, true, true, false, false, false, false, false, false, false] #[true, true, true, false, false, true, true, true, true, false, false, false, false, false, false] rfl rfl rfl rfl (two_of HT_.out (by kernel_rfl)) (by decide) (by decide) (fun K hK => ?_) (fun K hK => ?_)
            · skip
              refine event_step (v := .slice (some ⟨W.heap.size, 0, none⟩) 1 1) (w1 := W.alloc (.cells #[.int .i64 a] 2)) (by rfl) (by first | (go_simp; done) | (go_simp; rfl)) ?_
              have HLA := Aside0.mk (HT.out.lit a)
              have HT := Aside0.mk (HT.out.alloc (.cells #[.int .i64 a] 2))
              refine hK.out _ _ (HSP.out _ HT.out.blk HT.out.bel) (fun hHeld => ?_)
              clear hK K
              refine norm_ (a' := ?_) ?_ ?_
              rotate_left
              · show Act.put _ (some 30) _ = _
                simp only [Act.put, List.setIfInBounds_toArray, List.set_cons_zero, List.set_cons_succ, i64_w, i32_w]
                rfl
              refine two_ (i := 4) (j := 8) (Ni := some 31) (Nj := some 35) #[true, true, true, true, true, true, true, true, false, false, false, false, false, false, false] #[true, true, true, true, false, true, true, true, true, false, false, false, false, false, false] rfl rfl rfl rfl (two_of HT_.out (by kernel_rfl)) (by decide) (by decide) (fun K hK => ?_) (fun K hK => ?_)
              · skip
                refine TC.appA (W := (W.alloc (.cells #[.int .i64 a] 2))) (p := a) (n := W.heap.size) HT.out HLA.out (by rfl) (.tmp 28) (.tmp 30) 33 (by rfl) Try.underlying33 info2 (by rfl) (by rfl) HLX.out ?_
                intro AA cA wA hT1 hL1
                have HT := Aside0.mk hT1
                clear hT1 hL1
                refine hK.out _ _ (HSP.out _ HT.out.blk HT.out.bel) (fun hHeld => ?_)
                clear hK K
                refine norm_ (a' := ?_) ?_ ?_
                rotate_left
                · show Act.put _ (some 31) _ = _
                  simp only [Act.put, List.setIfInBounds_toArray, List.set_cons_zero, List.set_cons_succ, i64_w, i32_w]
                  rfl
                refine pure_ (i := 10) (N := some 37) (v := ?_) (a' := ?_) #[true, true, true, true, true, true, true, true, false, false, true, false, false, false, false] rfl rfl (any_of HT_.out (by kernel_rfl)) (fun _ _ _ h => h) (Or.inl ⟨by rfl, ?_⟩) ?_ ?_
                rotate_left
                · intro w'
                  go_simp
                  with_reducible rfl
                rotate_left
                · simp only [Act.put, List.setIfInBounds_toArray, List.set_cons_zero, List.set_cons_succ, i64_w, i32_w]
                  rfl
                refine one_ (i := 8) (N := some 35) #[true, true, true, true, true, true, true, true, true, false, true, false, false, false, false] rfl rfl (one_of HT_.out (by kernel_rfl)) (by decide) (fun K hK => ?_)
                refine event_step (v := .slice (some ⟨wA.heap.size, 0, none⟩) 1 1) (w1 := wA.alloc (.cells #[.int .i64 v] 2)) (by rfl) (by first | (go_simp; done) | (go_simp; rfl)) ?_
                have HLV := Aside0.mk (HT.out.lit v)
                have HT := Aside0.mk (HT.out.alloc (.cells #[.int .i64 v] 2))
                refine hK.out _ _ (HSP.out _ HT.out.blk HT.out.bel) (fun hHeld => ?_)
                clear hK K
                refine norm_ (a' := ?_) ?_ ?_
                rotate_left
                · show Act.put _ (some 35) _ = _
                  simp only [Act.put, List.setIfInBounds_toArray, List.set_cons_zero, List.set_cons_succ, i64_w, i32_w]
                  rfl
                refine one_ (i := 9) (N := some 36) #[true, true, true, true, true, true, true, true, true, true, true, false, false, false, false] rfl rfl (one_of HT_.out (by kernel_rfl)) (by decide) (fun K hK => ?_)
                refine TC.appV (W := (wA.alloc (.cells #[.int .i64 v] 2))) (p := v) (n := wA.heap.size) HT.out HLV.out (by rfl) (.tmp 33) (.tmp 35) 33 (by rfl) Try.underlying33 info2 (by rfl) (by rfl) HLY.out ?_
                intro AV cV wV hT1 hL1
                have HT := Aside0.mk hT1
                clear hT1 hL1
                refine hK.out _ _ (HSP.out _ HT.out.blk HT.out.bel) (fun hHeld => ?_)
                clear hK K
                refine norm_ (a' := ?_) ?_ ?_
                rotate_left
                · show Act.put _ (some 36) _ = _
                  simp only [Act.put, List.setIfInBounds_toArray, List.set_cons_zero, List.set_cons_succ, i64_w, i32_w]
                  rfl
                exact norm_ (by simp only [putAll, Act.put, List.setIfInBounds_toArray, List.set_cons_zero, List.set_cons_succ]) (hCont (W.heap.size, wA.heap.size, AA, cA, AV, cV) _ HT.out)
              · skip
                refine event_step (v := .slice (some ⟨(W.alloc (.cells #[.int .i64 a] 2)).heap.size, 0, none⟩) 1 1) (w1 := (W.alloc (.cells #[.int .i64 a] 2)).alloc (.cells #[.int .i64 v] 2)) (by rfl) (by first | (go_simp; done) | (go_simp; rfl)) ?_
                have HLV := Aside0.mk (HT.out.lit v)
                have HLA := Aside0.mk (HLA.out.alloc (.cells #[.int .i64 v] 2))
                have HT := Aside0.mk (HT.out.alloc (.cells #[.int .i64 v] 2))
                refine hK.out _ _ (HSP.out _ HT.out.blk HT.out.bel) (fun hHeld => ?_)
                clear hK K
                refine norm_ (a' := ?_) ?_ ?_
                rotate_left
                · show Act.put _ (some 35) _ = _
                  simp only [Act.put, List.setIfInBounds_toArray, List.set_cons_zero, List.set_cons_succ, i64_w, i32_w]
                  rfl
                refine one_ (i := 4) (N := some 31) #[true, true, true, true, true, true, true, true, true, false, false, false, false, false, false] rfl rfl (one_of HT_.out (by kernel_rfl)) (by decide) (fun K hK => ?_)
                refine TC.appA (W := ((W.alloc (.cells #[.int .i64 a] 2)).alloc (.cells #[.int .i64 v] 2))) (p := a) (n := W.heap.size) HT.out HLA.out (by rfl) (.tmp 28) (.tmp 30) 33 (by rfl) Try.underlying33 info2 (by rfl) (by rfl) HLX.out ?_
                intro AA cA wA hT1 hL1
                have HT := Aside0.mk hT1
                have HLV := Aside0.mk (hL1 _ _ HLV.out)
                clear hT1 hL1
                refine hK.out _ _ (HSP.out _ HT.out.blk HT.out.bel) (fun hHeld => ?_)
                clear hK K
                refine norm_ (a' := ?_) ?_ ?_
                rotate_left
                · show Act.put _ (some 31) _ = _
                  simp only [Act.put, List.setIfInBounds_toArray, List.set_cons_zero, List.set_cons_succ, i64_w, i32_w]
                  rfl
                refine pure_ (i := 10) (N := some 37) (v := ?_) (a' := ?_) #[true, true, true, true, true, true, true, true, true, false, true, false, false, false, false] rfl rfl (any_of HT_.out (by kernel_rfl)) (fun _ _ _ h => h) (Or.inl ⟨by rfl, ?_⟩) ?_ ?_
                rotate_left
                · intro w'
                  go_simp
                  with_reducible rfl
                rotate_left
                · simp only [Act.put, List.setIfInBounds_toArray, List.set_cons_zero, List.set_cons_succ, i64_w, i32_w]
                  rfl
                refine one_ (i := 9) (N := some 36) #[true, true, true, true, true, true, true, true, true, true, true, false, false, false, false] rfl rfl (one_of HT_.out (by kernel_rfl)) (by decide) (fun K hK => ?_)
                refine TC.appV (W := wA) (p := v) (n := (W.alloc (.cells #[.int .i64 a] 2)).heap.size) HT.out HLV.out (by rfl) (.tmp 33) (.tmp 35) 33 (by rfl) Try.underlying33 info2 (by rfl) (by rfl) HLY.out ?_
                intro AV cV wV hT1 hL1
                have HT := Aside0.mk hT1
                clear hT1 hL1
                refine hK.out _ _ (HSP.out _ HT.out.blk HT.out.bel) (fun hHeld => ?_)
                clear hK K
                refine norm_ (a' := ?_) ?_ ?_
                rotate_left
                · show Act.put _ (some 36) _ = _
                  simp only [Act.put, List.setIfInBounds_toArray, List.set_cons_zero, List.set_cons_succ, i64_w, i32_w]
                  rfl
                exact norm_ (by simp only [putAll, Act.put, List.setIfInBounds_toArray, List.set_cons_zero, List.set_cons_succ]) (hCont (W.heap.size, (W.alloc (.cells #[.int .i64 a] 2)).heap.size, AA, cA, AV, cV) _ HT.out)
            · skip
              refine event_step (v := .slice (some ⟨W.heap.size, 0, none⟩) 1 1) (w1 := W.alloc (.cells #[.int .i64 v] 2)) (by rfl) (by first | (go_simp; done) | (go_simp; rfl)) ?_
              have HLV := Aside0.mk (HT.out.lit v)
              have HT := Aside0.mk (HT.out.alloc (.cells #[.int .i64 v] 2))
              refine hK.out _ _ (HSP.out _ HT.out.blk HT.out.bel) (fun hHeld => ?_)
              clear hK K
              refine norm_ (a' := ?_) ?_ ?_
              rotate_left
              · show Act.put _ (some 35) _ = _
                simp only [Act.put, List.setIfInBounds_toArray, List.set_cons_zero, List.set_cons_succ, i64_w, i32_w]
                rfl
              refine one_ (i := 3) (N := some 30) #[true, true, true, true, false, true, true, true, true, false, false, false, false, false, false] rfl rfl (one_of HT_.out (by kernel_rfl)) (by decide) (fun K hK => ?_)
              refine event_step (v := .slice (some ⟨(W.alloc (.cells #[.int .i64 v] 2)).heap.size, 0, none⟩) 1 1) (w1 := (W.alloc (.cells #[.int .i64 v] 2)).alloc (.cells #[.int .i64 a] 2)) (by rfl) (by first | (go_simp; done) | (go_simp; rfl)) ?_
              have HLA := Aside0.mk (HT.out.lit a)
              have HLV := Aside0.mk (HLV.out.alloc (.cells #[.int .i64 a] 2))
              have HT := Aside0.mk (HT.out.alloc (.cells #[.int .i64 a] 2))
              refine hK.out _ _ (HSP.out _ HT.out.blk HT.out.bel) (fun hHeld => ?_)
              clear hK K
              refine norm_ (a' := ?_) ?_ ?_
              rotate_left
              · show Act.put _ (some 30) _ = _
                simp only [Act.put, List.setIfInBounds_toArray, List.set_cons_zero, List.set_cons_succ, i64_w, i32_w]
                rfl
              refine one_ (i := 4) (N := some 31) #[true, true, true, true, true, true, true, true, true, false, false, false, false, false, false] rfl rfl (one_of HT_.out (by kernel_rfl)) (by decide) (fun K hK => ?_)
              refine TC.appA (W := ((W.alloc (.cells #[.int .i64 v] 2)).alloc (.cells #[.int .i64 a] 2))) (p := a) (n := (W.alloc (.cells #[.int .i64 v] 2)).heap.size) HT.out HLA.out (by rfl) (.tmp 28) (.tmp 30) 33 (by rfl) Try.underlying33 info2 (by rfl) (by rfl) HLX.out ?_
              intro AA cA wA hT1 hL1
              have HT := Aside0.mk hT1
              have HLV := Aside0.mk (hL1 _ _ HLV.out)
              clear hT1 hL1
              refine hK.out _ _ (HSP.out _ HT.out.blk HT.out.bel) (fun hHeld => ?_)
              clear hK K
              refine norm_ (a' := ?_) ?_ ?_
              rotate_left
              · show Act.put _ (some 31) _ = _
                simp only [Act.put, List.setIfInBounds_toArray, List.set_cons_zero, List.set_cons_succ, i64_w, i32_w]
                rfl
              refine pure_ (i := 10) (N := some 37) (v := ?_) (a' := ?_) #[true, true, true, true, true, true, true, true, true, false, true, false, false, false, false] rfl rfl (any_of HT_.out (by kernel_rfl)) (fun _ _ _ h => h) (Or.inl ⟨by rfl, ?_⟩) ?_ ?_
              rotate_left
              · intro w'
                go_simp
                with_reducible rfl
              rotate_left
              · simp only [Act.put, List.setIfInBounds_toArray, List.set_cons_zero, List.set_cons_succ, i64_w, i32_w]
                rfl
              refine one_ (i := 9) (N := some 36) #[true, true, true, true, true, true, true, true, true, true, true, false, false, false, false] rfl rfl (one_of HT_.out (by kernel_rfl)) (by decide) (fun K hK => ?_)
              refine TC.appV (W := wA) (p := v) (n := W.heap.size) HT.out HLV.out (by rfl) (.tmp 33) (.tmp 35) 33 (by rfl) Try.underlying33 info2 (by rfl) (by rfl) HLY.out ?_
              intro AV cV wV hT1 hL1
              have HT := Aside0.mk hT1
              clear hT1 hL1
              refine hK.out _ _ (HSP.out _ HT.out.blk HT.out.bel) (fun hHeld => ?_)
              clear hK K
              refine norm_ (a' := ?_) ?_ ?_
              rotate_left
              · show Act.put _ (some 36) _ = _
                simp only [Act.put, List.setIfInBounds_toArray, List.set_cons_zero, List.set_cons_succ, i64_w, i32_w]
                rfl
              exact norm_ (by simp only [putAll, Act.put, List.setIfInBounds_toArray, List.set_cons_zero, List.set_cons_succ]) (hCont ((W.alloc (.cells #[.int .i64 v] 2)).heap.size, W.heap.size, AA, cA, AV, cV) _ HT.out)
          · skip
            rintro ⟨nA, nV, A1_, c1_, A2_, c2_⟩ w_ hT_
            have HT := Aside0.mk hT_
            clear hT_
            simp only [putAll, Act.put, List.setIfInBounds_toArray, List.set_cons_zero, List.set_cons_succ]
            -- 11: _ := store 33 t37 t31 : 0 
            refine last_ (i := 11) (N := none) #[true, true, true, true, true, true, true, true, true, true, true, true, false, false, false] rfl rfl (one_of HT_.out (by kernel_rfl)) (by decide) (fun K hK => ?_)
            have z0 := (blk_cell HT.out.blk 0).trans (rfl : _ = some (vA))
            have f0 := blk_frozen HT.out.blk 0
            refine skip_ (w1 := w_.setCell ⟨g, 0, none⟩ (.slice A1_ ((k1 acc).length + 1) c1_)) (by rfl) rfl (by first | (go_simp; done) | (go_simp; rfl)) ?_
            have HT := Aside0.mk (HT.out.set0 (.slice A1_ ((k1 acc).length + 1) c1_))
            refine hK.out _ _ ?_
            clear hK K z0 f0
            -- 12: t38 := fieldAddr 56 t7 1 : 0 
            refine pure_ (i := 12) (N := some 38) (v := ?_) (a' := ?_) #[true, true, true, true, true, true, true, true, true, true, true, true, true, false, false] rfl rfl (any_of HT_.out (by kernel_rfl)) (fun _ _ _ h => h) (Or.inl ⟨by rfl, ?_⟩) ?_ ?_
            rotate_left
            · intro w'
              go_simp
              with_reducible rfl
            rotate_left
            · simp only [Act.put, List.setIfInBounds_toArray, List.set_cons_zero, List.set_cons_succ, i64_w, i32_w]
              rfl
            -- 13: _ := store 33 t38 t36 : 0 
            refine last_ (i := 13) (N := none) #[true, true, true, true, true, true, true, true, true, true, true, true, true, true, false] rfl rfl (one_of HT_.out (by kernel_rfl)) (by decide) (fun K hK => ?_)
            have z0 := (blk_cell HT.out.blk 1).trans (rfl : _ = some (vV))
            have f0 := blk_frozen HT.out.blk 1
            refine skip_ (w1 := (w_.setCell ⟨g, 0, none⟩ (.slice A1_ ((k1 acc).length + 1) c1_)).setCell ⟨g, 1, none⟩ (.slice A2_ ((k2 acc).length + 1) c2_)) (by rfl) rfl (by first | (go_simp; done) | (go_simp; rfl)) ?_
            have HT := Aside0.mk (HT.out.set1 (.slice A2_ ((k2 acc).length + 1) c2_))
            refine hK.out _ _ ?_
            clear hK K z0 f0
            -- 14: t8 := assign true : 4 
            refine pure_ (i := 14) (N := some 8) (v := ?_) (a' := ?_) #[true, true, true, true, true, true, true, true, true, true, true, true, true, true, true] rfl rfl (any_of HT_.out (by kernel_rfl)) (fun _ _ _ h => h) (Or.inl ⟨by rfl, ?_⟩) ?_ ?_
            rotate_left
            · intro w'
              go_simp
              with_reducible rfl
            rotate_left
            · simp only [Act.put, List.setIfInBounds_toArray, List.set_cons_zero, List.set_cons_succ, i64_w, i32_w]
              rfl
            refine done_ (done_of HT_.out (by kernel_rfl)) ?_
            have HT := Aside0.mk (show TC w3 w3.heap.size g (.slice A1_ ((k1 acc).length + 1) c1_) (.slice A2_ ((k2 acc).length + 1) c2_) (.slice A1_ ((k1 acc).length + 1) c1_) (.slice A2_ ((k2 acc).length + 1) c2_) (k1 (acc ++ [(a, v)])) (k2 (acc ++ [(a, v)])) ((w_.setCell ⟨g, 0, none⟩ (.slice A1_ ((k1 acc).length + 1) c1_)).setCell ⟨g, 1, none⟩ (.slice A2_ ((k2 acc).length + 1) c2_)) by rw [k1_snoc, k2_snoc]; exact HT.out)
            have HAL := Aside0.mk (show (acc ++ [(a, v)]).length ≤ 4294967295 by have := HAL.out; simp; omega)
            clear HSP HLX HLY hHeld HFA
            generalize (w_.setCell ⟨g, 0, none⟩ (.slice A1_ ((k1 acc).length + 1) c1_)).setCell ⟨g, 1, none⟩ (.slice A2_ ((k2 acc).length + 1) c2_) = w9 at HT ⊢
            generalize Value.slice A1_ ((k1 acc).length + 1) c1_ = vA at HT ⊢
            generalize Value.slice A2_ ((k2 acc).length + 1) c2_ = vV at HT ⊢
            generalize acc ++ [(a, v)] = acc at HT HFS HAL ⊢
            go_wp2_with fail
            have HSP := Aside0.mk (fun (z : World) (h1 : z.heap[g]? = some (.cells #[vA, vV] 56 (0, 0))) (h2 : Below w3.heap.size w3 z) => (⟨(blk_cell h1 0).trans rfl, (blk_cell h1 1).trans rfl, (h2.cell (World.block_lt_of_cell? w3 _ B30.out)).trans B30.out, (h2.cell (World.block_lt_of_cell? w3 _ B31.out)).trans B31.out, (h2.cell (World.block_lt_of_cell? w3 _ Y0.out)).trans Y0.out, (h2.cell (World.block_lt_of_cell? w3 _ Y1.out)).trans Y1.out⟩ : z.cell? ⟨g, 0, none⟩ = some (vA) ∧ z.cell? ⟨g, 1, none⟩ = some (vV) ∧ z.cell? ⟨w.heap.size, 0, none⟩ = some (.slice (some ad) l.length c1) ∧ z.cell? ⟨w.heap.size, 1, none⟩ = some (.slice (some av) l.length c2) ∧ z.cell? (ad.add i) = some (.int .i64 x.1) ∧ z.cell? (av.add i) = some (.int .i64 x.2)))
            have K0 := HSP.out _ HT.out.drew.blk HT.out.drew.bel
            have HLX := Aside0.mk (show ((k1 acc).length + 1) * 8 ≤ 140737488355328 by rw [k1_len]; have := HAL.out; omega)
            have HLY := Aside0.mk (show ((k2 acc).length + 1) * 8 ≤ 140737488355328 by rw [k2_len]; have := HAL.out; omega)
            refine start_ (n := 22) (S := fun w' => w'.cell? ⟨g, 0, none⟩ = some (vA) ∧ w'.cell? ⟨g, 1, none⟩ = some (vV) ∧ w'.cell? ⟨w.heap.size, 0, none⟩ = some (.slice (some ad) l.length c1) ∧ w'.cell? ⟨w.heap.size, 1, none⟩ = some (.slice (some av) l.length c2) ∧ w'.cell? (ad.add i) = some (.int .i64 x.1) ∧ w'.cell? (av.add i) = some (.int .i64 x.2)) (ds := [19, 21]) #[false, false, false, false, false, false, false, false, false, false, false, false, false, false, false, false, false, false, false, false, false, false] (by kernel_rfl) rfl rfl K0 (fun hHeld => ?_)
            refine with_tabW stateAdd_any.tab8 stateAdd_any.bits8 (fun HT_ HW_ => ?_)
            have HT := Aside0.mk HT.out.drew
            clear K0
            generalize (w9).drew = W at HT hHeld ⊢
            -- 0: t39 := fieldAddr 56 t7 0 : 0 
            refine pure_ (i := 0) (N := some 39) (v := ?_) (a' := ?_) #[true, false, false, false, false, false, false, false, false, false, false, false, false, false, false, false, false, false, false, false, false, false] rfl rfl (any_of HT_.out (by kernel_rfl)) (fun _ _ _ h => h) (Or.inl ⟨by rfl, ?_⟩) ?_ ?_
            rotate_left
            · intro w'
              go_simp
              with_reducible rfl
            rotate_left
            · simp only [Act.put, List.setIfInBounds_toArray, List.set_cons_zero, List.set_cons_succ, i64_w, i32_w]
              rfl
            -- 2: t41 := fieldAddr 56 t3 0 : 0 
            refine pure_ (i := 2) (N := some 41) (v := ?_) (a' := ?_) #[true, false, true, false, false, false, false, false, false, false, false, false, false, false, false, false, false, false, false, false, false, false] rfl rfl (any_of HT_.out (by kernel_rfl)) (fun _ _ _ h => h) (Or.inl ⟨by rfl, ?_⟩) ?_ ?_
            rotate_left
            · intro w'
              go_simp
              with_reducible rfl
            rotate_left
            · simp only [Act.put, List.setIfInBounds_toArray, List.set_cons_zero, List.set_cons_succ, i64_w, i32_w]
              rfl
            -- 4: t43 := move t9 : 3 
            refine pure_ (i := 4) (N := some 43) (v := ?_) (a' := ?_) #[true, false, true, false, true, false, false, false, false, false, false, false, false, false, false, false, false, false, false, false, false, false] rfl rfl (any_of HT_.out (by kernel_rfl)) (fun _ _ _ h => h) (Or.inl ⟨by rfl, ?_⟩) ?_ ?_
            rotate_left
            · intro w'
              go_simp
              with_reducible rfl
            rotate_left
            · simp only [Act.put, List.setIfInBounds_toArray, List.set_cons_zero, List.set_cons_succ, i64_w, i32_w]
              rfl
            -- 9: t48 := fieldAddr 56 t7 1 : 0 
            refine pure_ (i := 9) (N := some 48) (v := ?_) (a' := ?_) #[true, false, true, false, true, false, false, false, false, true, false, false, false, false, false, false, false, false, false, false, false, false] rfl rfl (any_of HT_.out (by kernel_rfl)) (fun _ _ _ h => h) (Or.inl ⟨by rfl, ?_⟩) ?_ ?_
            rotate_left
            · intro w'
              go_simp
              with_reducible rfl
            rotate_left
            · simp only [Act.put, List.setIfInBounds_toArray, List.set_cons_zero, List.set_cons_succ, i64_w, i32_w]
              rfl
            -- 11: t50 := fieldAddr 56 t3 1 : 0 
            refine pure_ (i := 11) (N := some 50) (v := ?_) (a' := ?_) #[true, false, true, false, true, false, false, false, false, true, false, true, false, false, false, false, false, false, false, false, false, false] rfl rfl (any_of HT_.out (by kernel_rfl)) (fun _ _ _ h => h) (Or.inl ⟨by rfl, ?_⟩) ?_ ?_
            rotate_left
            · intro w'
              go_simp
              with_reducible rfl
            rotate_left
            · simp only [Act.put, List.setIfInBounds_toArray, List.set_cons_zero, List.set_cons_succ, i64_w, i32_w]
              rfl
            -- 13: t52 := move t9 : 3 
            refine pure_ (i := 13) (N := some 52) (v := ?_) (a' := ?_) #[true, false, true, false, true, false, false, false, false, true, false, true, false, true, false, false, false, false, false, false, false, false] rfl rfl (any_of HT_.out (by kernel_rfl)) (fun _ _ _ h => h) (Or.inl ⟨by rfl, ?_⟩) ?_ ?_
            rotate_left
            · intro w'
              go_simp
              with_reducible rfl
            rotate_left
            · simp only [Act.put, List.setIfInBounds_toArray, List.set_cons_zero, List.set_cons_succ, i64_w, i32_w]
              rfl
            -- 1: t40 := load 33 t39 : 33 
            refine take_ (i := 1) (N := some 40) (v := ?_) (a' := ?_) #[true, true, true, false, true, false, false, false, false, true, false, true, false, true, false, false, false, false, false, false, false, false] rfl rfl (take_ofW HT_.out HW_.out (by kernel_rfl)) (fun _ _ _ h => h) (Or.inl ⟨by rfl, ?_⟩) hHeld ?_ ?_
            rotate_left
            · rintro w' ⟨s0, s1, s2, s3, s4, s5⟩
              go_simp
              with_reducible rfl
            rotate_left
            · simp only [Act.put, List.setIfInBounds_toArray, List.set_cons_zero, List.set_cons_succ, i64_w, i32_w]
              rfl
            -- 3: t42 := load 33 t41 : 33 
            refine take_ (i := 3) (N := some 42) (v := ?_) (a' := ?_) #[true, true, true, true, true, false, false, false, false, true, false, true, false, true, false, false, false, false, false, false, false, false] rfl rfl (take_ofW HT_.out HW_.out (by kernel_rfl)) (fun _ _ _ h => h) (Or.inl ⟨by rfl, ?_⟩) hHeld ?_ ?_
            rotate_left
            · rintro w' ⟨s0, s1, s2, s3, s4, s5⟩
              go_simp
              with_reducible rfl
            rotate_left
            · simp only [Act.put, List.setIfInBounds_toArray, List.set_cons_zero, List.set_cons_succ, i64_w, i32_w]
              rfl
            -- 5: t44 := indexAddr 33 t42 t43 : 0 
            refine pure_ (i := 5) (N := some 44) (v := ?_) (a' := ?_) #[true, true, true, true, true, true, false, false, false, true, false, true, false, true, false, false, false, false, false, false, false, false] rfl rfl (any_of HT_.out (by kernel_rfl)) (fun _ _ _ h => h) (Or.inl ⟨by rfl, ?_⟩) ?_ ?_
            rotate_left
            · intro w'
              go_simp
              with_reducible rfl
            rotate_left
            · simp only [Act.put, List.setIfInBounds_toArray, List.set_cons_zero, List.set_cons_succ, i64_w, i32_w]
              rfl
            -- 6: t45 := load 2 t44 : 2 
            refine take_ (i := 6) (N := some 45) (v := ?_) (a' := ?_) #[true, true, true, true, true, true, true, false, false, true, false, true, false, true, false, false, false, false, false, false, false, false] rfl rfl (take_ofW HT_.out HW_.out (by kernel_rfl)) (fun _ _ _ h => h) (Or.inl ⟨by rfl, ?_⟩) hHeld ?_ ?_
            rotate_left
            · rintro w' ⟨s0, s1, s2, s3, s4, s5⟩
              go_simp
              with_reducible rfl
            rotate_left
            · simp only [Act.put, List.setIfInBounds_toArray, List.set_cons_zero, List.set_cons_succ, i64_w, i32_w]
              rfl
            -- 10: t49 := load 33 t48 : 33 
            refine take_ (i := 10) (N := some 49) (v := ?_) (a' := ?_) #[true, true, true, true, true, true, true, false, false, true, true, true, false, true, false, false, false, false, false, false, false, false] rfl rfl (take_ofW HT_.out HW_.out (by kernel_rfl)) (fun _ _ _ h => h) (Or.inl ⟨by rfl, ?_⟩) hHeld ?_ ?_
            rotate_left
            · rintro w' ⟨s0, s1, s2, s3, s4, s5⟩
              go_simp
              with_reducible rfl
            rotate_left
            · simp only [Act.put, List.setIfInBounds_toArray, List.set_cons_zero, List.set_cons_succ, i64_w, i32_w]
              rfl
            -- 12: t51 := load 33 t50 : 33 
            refine take_ (i := 12) (N := some 51) (v := ?_) (a' := ?_) #[true, true, true, true, true, true, true, false, false, true, true, true, true, true, false, false, false, false, false, false, false, false] rfl rfl (take_ofW HT_.out HW_.out (by kernel_rfl)) (fun _ _ _ h => h) (Or.inl ⟨by rfl, ?_⟩) hHeld ?_ ?_
            rotate_left
            · rintro w' ⟨s0, s1, s2, s3, s4, s5⟩
              go_simp
              with_reducible rfl
            rotate_left
            · simp only [Act.put, List.setIfInBounds_toArray, List.set_cons_zero, List.set_cons_succ, i64_w, i32_w]
              rfl
            -- 14: t53 := indexAddr 33 t51 t52 : 0 
            refine pure_ (i := 14) (N := some 53) (v := ?_) (a' := ?_) #[true, true, true, true, true, true, true, false, false, true, true, true, true, true, true, false, false, false, false, false, false, false] rfl rfl (any_of HT_.out (by kernel_rfl)) (fun _ _ _ h => h) (Or.inl ⟨by rfl, ?_⟩) ?_ ?_
            rotate_left
            · intro w'
              go_simp
              with_reducible rfl
            rotate_left
            · simp only [Act.put, List.setIfInBounds_toArray, List.set_cons_zero, List.set_cons_succ, i64_w, i32_w]
              rfl
            -- 15: t54 := load 2 t53 : 2 
            refine take_ (i := 15) (N := some 54) (v := ?_) (a' := ?_) #[true, true, true, true, true, true, true, false, false, true, true, true, true, true, true, true, false, false, false, false, false, false] rfl rfl (take_ofW HT_.out HW_.out (by kernel_rfl)) (fun _ _ _ h => h) (Or.inl ⟨by rfl, ?_⟩) hHeld ?_ ?_
            rotate_left
            · rintro w' ⟨s0, s1, s2, s3, s4, s5⟩
              go_simp
              with_reducible rfl
            rotate_left
            · simp only [Act.put, List.setIfInBounds_toArray, List.set_cons_zero, List.set_cons_succ, i64_w, i32_w]
              rfl
            refine join_ (σ := (Nat × Nat × Option Addr × Nat × Option Addr × Nat)) 3 #[true, true, true, true, true, true, true, true, true, true, true, true, true, true, true, true, true, true, true, false, false, false] (fun s_ => [(46, .slice (some ⟨s_.1, 0, none⟩) 1 1), (47, .slice s_.2.2.1 ((k1 acc).length + 1) s_.2.2.2.1), (55, .slice (some ⟨s_.2.1, 0, none⟩) 1 1), (56, .slice s_.2.2.2.2.1 ((k2 acc).length + 1) s_.2.2.2.2.2), (57, .pointer (some ⟨g, 0, none⟩))]) (fun s_ w' => TC w3 w3.heap.size g vA vV (.slice s_.2.2.1 ((k1 acc).length + 1) s_.2.2.2.1) (.slice s_.2.2.2.2.1 ((k2 acc).length + 1) s_.2.2.2.2.2) (k1 acc ++ [x.1]) (k2 acc ++ [x.2]) w') ?_ ?_
            rotate_left
            · intro hCont
              refine two_ (i := 7) (j := 16) (Ni := some 46) (Nj := some 55) #[true, true, true, true, true, true, true, true, false, true, true, true, true, true, true, true, false, false, false, false, false, false] #[true, true, true, true, true, true, true, false, false, true, true, true, true, true, true, true, true, false, false, false, false, false] rfl rfl rfl rfl (two_of HT_.out (by kernel_rfl)) (by decide) (by decide) (fun K hK => ?_) (fun K hK => ?_)
              · skip
                refine event_step (v := .slice (some ⟨W.heap.size, 0, none⟩) 1 1) (w1 := W.alloc (.cells #[.int .i64 x.1] 2)) (by rfl) (by first | (go_simp; done) | (go_simp; rfl)) ?_
                have HLA := Aside0.mk (HT.out.lit x.1)
                have HT := Aside0.mk (HT.out.alloc (.cells #[.int .i64 x.1] 2))
                refine hK.out _ _ (HSP.out _ HT.out.blk HT.out.bel) (fun hHeld => ?_)
                clear hK K
                refine norm_ (a' := ?_) ?_ ?_
                rotate_left
                · show Act.put _ (some 46) _ = _
                  simp only [Act.put, List.setIfInBounds_toArray, List.set_cons_zero, List.set_cons_succ, i64_w, i32_w]
                  rfl
                refine two_ (i := 8) (j := 16) (Ni := some 47) (Nj := some 55) #[true, true, true, true, true, true, true, true, true, true, true, true, true, true, true, true, false, false, false, false, false, false] #[true, true, true, true, true, true, true, true, false, true, true, true, true, true, true, true, true, false, false, false, false, false] rfl rfl rfl rfl (two_of HT_.out (by kernel_rfl)) (by decide) (by decide) (fun K hK => ?_) (fun K hK => ?_)
                · skip
                  refine TC.appA (W := (W.alloc (.cells #[.int .i64 x.1] 2))) (p := x.1) (n := W.heap.size) HT.out HLA.out (by rfl) (.tmp 40) (.tmp 46) 33 (by rfl) Try.underlying33 info2 (by rfl) (by rfl) HLX.out ?_
                  intro AA cA wA hT1 hL1
                  have HT := Aside0.mk hT1
                  clear hT1 hL1
                  refine hK.out _ _ (HSP.out _ HT.out.blk HT.out.bel) (fun hHeld => ?_)
                  clear hK K
                  refine norm_ (a' := ?_) ?_ ?_
                  rotate_left
                  · show Act.put _ (some 47) _ = _
                    simp only [Act.put, List.setIfInBounds_toArray, List.set_cons_zero, List.set_cons_succ, i64_w, i32_w]
                    rfl
                  refine pure_ (i := 18) (N := some 57) (v := ?_) (a' := ?_) #[true, true, true, true, true, true, true, true, true, true, true, true, true, true, true, true, false, false, true, false, false, false] rfl rfl (any_of HT_.out (by kernel_rfl)) (fun _ _ _ h => h) (Or.inl ⟨by rfl, ?_⟩) ?_ ?_
                  rotate_left
                  · intro w'
                    go_simp
                    with_reducible rfl
                  rotate_left
                  · simp only [Act.put, List.setIfInBounds_toArray, List.set_cons_zero, List.set_cons_succ, i64_w, i32_w]
                    rfl
                  refine one_ (i := 16) (N := some 55) #[true, true, true, true, true, true, true, true, true, true, true, true, true, true, true, true, true, false, true, false, false, false] rfl rfl (one_of HT_.out (by kernel_rfl)) (by decide) (fun K hK => ?_)
                  refine event_step (v := .slice (some ⟨wA.heap.size, 0, none⟩) 1 1) (w1 := wA.alloc (.cells #[.int .i64 x.2] 2)) (by rfl) (by first | (go_simp; done) | (go_simp; rfl)) ?_
                  have HLV := Aside0.mk (HT.out.lit x.2)
                  have HT := Aside0.mk (HT.out.alloc (.cells #[.int .i64 x.2] 2))
                  refine hK.out _ _ (HSP.out _ HT.out.blk HT.out.bel) (fun hHeld => ?_)
                  clear hK K
                  refine norm_ (a' := ?_) ?_ ?_
                  rotate_left
                  · show Act.put _ (some 55) _ = _
                    simp only [Act.put, List.setIfInBounds_toArray, List.set_cons_zero, List.set_cons_succ, i64_w, i32_w]
                    rfl
                  refine one_ (i := 17) (N := some 56) #[true, true, true, true, true, true, true, true, true, true, true, true, true, true, true, true, true, true, true, false, false, false] rfl rfl (one_of HT_.out (by kernel_rfl)) (by decide) (fun K hK => ?_)
                  refine TC.appV (W := (wA.alloc (.cells #[.int .i64 x.2] 2))) (p := x.2) (n := wA.heap.size) HT.out HLV.out (by rfl) (.tmp 49) (.tmp 55) 33 (by rfl) Try.underlying33 info2 (by rfl) (by rfl) HLY.out ?_
                  intro AV cV wV hT1 hL1
                  have HT := Aside0.mk hT1
                  clear hT1 hL1
                  refine hK.out _ _ (HSP.out _ HT.out.blk HT.out.bel) (fun hHeld => ?_)
                  clear hK K
                  refine norm_ (a' := ?_) ?_ ?_
                  rotate_left
                  · show Act.put _ (some 56) _ = _
                    simp only [Act.put, List.setIfInBounds_toArray, List.set_cons_zero, List.set_cons_succ, i64_w, i32_w]
                    rfl
                  exact norm_ (by simp only [putAll, Act.put, List.setIfInBounds_toArray, List.set_cons_zero, List.set_cons_succ]) (hCont (W.heap.size, wA.heap.size, AA, cA, AV, cV) _ HT.out)
                · skip
                  refine event_step (v := .slice (some ⟨(W.alloc (.cells #[.int .i64 x.1] 2)).heap.size, 0, none⟩) 1 1) (w1 := (W.alloc (.cells #[.int .i64 x.1] 2)).alloc (.cells #[.int .i64 x.2] 2)) (by rfl) (by first | (go_simp; done) | (go_simp; rfl)) ?_
                  have HLV := Aside0.mk (HT.out.lit x.2)
                  have HLA := Aside0.mk (HLA.out.alloc (.cells #[.int .i64 x.2] 2))
                  have HT := Aside0.mk (HT.out.alloc (.cells #[.int .i64 x.2] 2))
                  refine hK.out _ _ (HSP.out _ HT.out.blk HT.out.bel) (fun hHeld => ?_)
                  clear hK K
                  refine norm_ (a' := ?_) ?_ ?_
                  rotate_left
                  · show Act.put _ (some 55) _ = _
                    simp only [Act.put, List.setIfInBounds_toArray, List.set_cons_zero, List.set_cons_succ, i64_w, i32_w]
                    rfl
                  refine one_ (i := 8) (N := some 47) #[true, true, true, true, true, true, true, true, true, true, true, true, true, true, true, true, true, false, false, false, false, false] rfl rfl (one_of HT_.out (by kernel_rfl)) (by decide) (fun K hK => ?_)
                  refine TC.appA (W := ((W.alloc (.cells #[.int .i64 x.1] 2)).alloc (.cells #[.int .i64 x.2] 2))) (p := x.1) (n := W.heap.size) HT.out HLA.out (by rfl) (.tmp 40) (.tmp 46) 33 (by rfl) Try.underlying33 info2 (by rfl) (by rfl) HLX.out ?_
                  intro AA cA wA hT1 hL1
                  have HT := Aside0.mk hT1
                  have HLV := Aside0.mk (hL1 _ _ HLV.out)
                  clear hT1 hL1
                  refine hK.out _ _ (HSP.out _ HT.out.blk HT.out.bel) (fun hHeld => ?_)
                  clear hK K
                  refine norm_ (a' := ?_) ?_ ?_
                  rotate_left
                  · show Act.put _ (some 47) _ = _
                    simp only [Act.put, List.setIfInBounds_toArray, List.set_cons_zero, List.set_cons_succ, i64_w, i32_w]
                    rfl
                  refine pure_ (i := 18) (N := some 57) (v := ?_) (a' := ?_) #[true, true, true, true, true, true, true, true, true, true, true, true, true, true, true, true, true, false, true, false, false, false] rfl rfl (any_of HT_.out (by kernel_rfl)) (fun _ _ _ h => h) (Or.inl ⟨by rfl, ?_⟩) ?_ ?_
                  rotate_left
                  · intro w'
                    go_simp
                    with_reducible rfl
                  rotate_left
                  · simp only [Act.put, List.setIfInBounds_toArray, List.set_cons_zero, List.set_cons_succ, i64_w, i32_w]
                    rfl
                  refine one_ (i := 17) (N := some 56) #[true, true, true, true, true, true, true, true, true, true, true, true, true, true, true, true, true, true, true, false, false, false] rfl rfl (one_of HT_.out (by kernel_rfl)) (by decide) (fun K hK => ?_)
                  refine TC.appV (W := wA) (p := x.2) (n := (W.alloc (.cells #[.int .i64 x.1] 2)).heap.size) HT.out HLV.out (by rfl) (.tmp 49) (.tmp 55) 33 (by rfl) Try.underlying33 info2 (by rfl) (by rfl) HLY.out ?_
                  intro AV cV wV hT1 hL1
                  have HT := Aside0.mk hT1
                  clear hT1 hL1
                  refine hK.out _ _ (HSP.out _ HT.out.blk HT.out.bel) (fun hHeld => ?_)
                  clear hK K
                  refine norm_ (a' := ?_) ?_ ?_
                  rotate_left
                  · show Act.put _ (some 56) _ = _
                    simp only [Act.put, List.setIfInBounds_toArray, List.set_cons_zero, List.set_cons_succ, i64_w, i32_w]
                    rfl
                  exact norm_ (by simp only [putAll, Act.put, List.setIfInBounds_toArray, List.set_cons_zero, List.set_cons_succ]) (hCont (W.heap.size, (W.alloc (.cells #[.int .i64 x.1] 2)).heap.size, AA, cA, AV, cV) _ HT.out)
              · skip
                refine event_step (v := .slice (some ⟨W.heap.size, 0, none⟩) 1 1) (w1 := W.alloc (.cells #[.int .i64 x.2] 2)) (by rfl) (by first | (go_simp; done) | (go_simp; rfl)) ?_
                have HLV := Aside0.mk (HT.out.lit x.2)
                have HT := Aside0.mk (HT.out.alloc (.cells #[.int .i64 x.2] 2))
                refine hK.out _ _ (HSP.out _ HT.out.blk HT.out.bel) (fun hHeld => ?_)
                clear hK K
                refine norm_ (a' := ?_) ?_ ?_
                rotate_left
                · show Act.put _ (some 55) _ = _
                  simp only [Act.put, List.setIfInBounds_toArray, List.set_cons_zero, List.set_cons_succ, i64_w, i32_w]
                  rfl
                refine one_ (i := 7) (N := some 46) #[true, true, true, true, true, true, true, true, false, true, true, true, true, true, true, true, true, false, false, false, false, false] rfl rfl (one_of HT_.out (by kernel_rfl)) (by decide) (fun K hK => ?_)
                refine event_step (v := .slice (some ⟨(W.alloc (.cells #[.int .i64 x.2] 2)).heap.size, 0, none⟩) 1 1) (w1 := (W.alloc (.cells #[.int .i64 x.2] 2)).alloc (.cells #[.int .i64 x.1] 2)) (by rfl) (by first | (go_simp; done) | (go_simp; rfl)) ?_
                have HLA := Aside0.mk (HT.out.lit x.1)
                have HLV := Aside0.mk (HLV.out.alloc (.cells #[.int .i64 x.1] 2))
                have HT := Aside0.mk (HT.out.alloc (.cells #[.int .i64 x.1] 2))
                refine hK.out _ _ (HSP.out _ HT.out.blk HT.out.bel) (fun hHeld => ?_)
                clear hK K
                refine norm_ (a' := ?_) ?_ ?_
                rotate_left
                · show Act.put _ (some 46) _ = _
                  simp only [Act.put, List.setIfInBounds_toArray, List.set_cons_zero, List.set_cons_succ, i64_w, i32_w]
                  rfl
                refine one_ (i := 8) (N := some 47) #[true, true, true, true, true, true, true, true, true, true, true, true, true, true, true, true, true, false, false, false, false, false] rfl rfl (one_of HT_.out (by kernel_rfl)) (by decide) (fun K hK => ?_)
                refine TC.appA (W := ((W.alloc (.cells #[.int .i64 x.2] 2)).alloc (.cells #[.int .i64 x.1] 2))) (p := x.1) (n := (W.alloc (.cells #[.int .i64 x.2] 2)).heap.size) HT.out HLA.out (by rfl) (.tmp 40) (.tmp 46) 33 (by rfl) Try.underlying33 info2 (by rfl) (by rfl) HLX.out ?_
                intro AA cA wA hT1 hL1
                have HT := Aside0.mk hT1
                have HLV := Aside0.mk (hL1 _ _ HLV.out)
                clear hT1 hL1
                refine hK.out _ _ (HSP.out _ HT.out.blk HT.out.bel) (fun hHeld => ?_)
                clear hK K
                refine norm_ (a' := ?_) ?_ ?_
                rotate_left
                · show Act.put _ (some 47) _ = _
                  simp only [Act.put, List.setIfInBounds_toArray, List.set_cons_zero, List.set_cons_succ, i64_w, i32_w]
                  rfl
                refine pure_ (i := 18) (N := some 57) (v := ?_) (a' := ?_) #[true, true, true, true, true, true, true, true, true, true, true, true, true, true, true, true, true, false, true, false, false, false] rfl rfl (any_of HT_.out (by kernel_rfl)) (fun _ _ _ h => h) (Or.inl ⟨by rfl, ?_⟩) ?_ ?_
                rotate_left
                · intro w'
                  go_simp
                  with_reducible rfl
                rotate_left
                · simp only [Act.put, List.setIfInBounds_toArray, List.set_cons_zero, List.set_cons_succ, i64_w, i32_w]
                  rfl
                refine one_ (i := 17) (N := some 56) #[true, true, true, true, true, true, true, true, true, true, true, true, true, true, true, true, true, true, true, false, false, false] rfl rfl (one_of HT_.out (by kernel_rfl)) (by decide) (fun K hK => ?_)
                refine TC.appV (W := wA) (p := x.2) (n := W.heap.size) HT.out HLV.out (by rfl) (.tmp 49) (.tmp 55) 33 (by rfl) Try.underlying33 info2 (by rfl) (by rfl) HLY.out ?_
                intro AV cV wV hT1 hL1
                have HT := Aside0.mk hT1
                clear hT1 hL1
                refine hK.out _ _ (HSP.out _ HT.out.blk HT.out.bel) (fun hHeld => ?_)
                clear hK K
                refine norm_ (a' := ?_) ?_ ?_
                rotate_left
                · show Act.put _ (some 56) _ = _
                  simp only [Act.put, List.setIfInBounds_toArray, List.set_cons_zero, List.set_cons_succ, i64_w, i32_w]
                  rfl
                exact norm_ (by simp only [putAll, Act.put, List.setIfInBounds_toArray, List.set_cons_zero, List.set_cons_succ]) (hCont ((W.alloc (.cells #[.int .i64 x.2] 2)).heap.size, W.heap.size, AA, cA, AV, cV) _ HT.out)
            · skip
              rintro ⟨nA, nV, A1_, c1_, A2_, c2_⟩ w_ hT_
              have HT := Aside0.mk hT_
              clear hT_
              simp only [putAll, Act.put, List.setIfInBounds_toArray, List.set_cons_zero, List.set_cons_succ]
              -- 19: _ := store 33 t57 t47 : 0 
              refine last_ (i := 19) (N := none) #[true, true, true, true, true, true, true, true, true, true, true, true, true, true, true, true, true, true, true, true, false, false] rfl rfl (one_of HT_.out (by kernel_rfl)) (by decide) (fun K hK => ?_)
              have z0 := (blk_cell HT.out.blk 0).trans (rfl : _ = some (vA))
              have f0 := blk_frozen HT.out.blk 0
              refine skip_ (w1 := w_.setCell ⟨g, 0, none⟩ (.slice A1_ ((k1 acc).length + 1) c1_)) (by rfl) rfl (by first | (go_simp; done) | (go_simp; rfl)) ?_
              have HT := Aside0.mk (HT.out.set0 (.slice A1_ ((k1 acc).length + 1) c1_))
              refine hK.out _ _ ?_
              clear hK K z0 f0
              -- 20: t58 := fieldAddr 56 t7 1 : 0 
              refine pure_ (i := 20) (N := some 58) (v := ?_) (a' := ?_) #[true, true, true, true, true, true, true, true, true, true, true, true, true, true, true, true, true, true, true, true, true, false] rfl rfl (any_of HT_.out (by kernel_rfl)) (fun _ _ _ h => h) (Or.inl ⟨by rfl, ?_⟩) ?_ ?_
              rotate_left
              · intro w'
                go_simp
                with_reducible rfl
              rotate_left
              · simp only [Act.put, List.setIfInBounds_toArray, List.set_cons_zero, List.set_cons_succ, i64_w, i32_w]
                rfl
              -- 21: _ := store 33 t58 t56 : 0 
              refine last_ (i := 21) (N := none) #[true, true, true, true, true, true, true, true, true, true, true, true, true, true, true, true, true, true, true, true, true, true] rfl rfl (one_of HT_.out (by kernel_rfl)) (by decide) (fun K hK => ?_)
              have z0 := (blk_cell HT.out.blk 1).trans (rfl : _ = some (vV))
              have f0 := blk_frozen HT.out.blk 1
              refine skip_ (w1 := (w_.setCell ⟨g, 0, none⟩ (.slice A1_ ((k1 acc).length + 1) c1_)).setCell ⟨g, 1, none⟩ (.slice A2_ ((k2 acc).length + 1) c2_)) (by rfl) rfl (by first | (go_simp; done) | (go_simp; rfl)) ?_
              have HT := Aside0.mk (HT.out.set1 (.slice A2_ ((k2 acc).length + 1) c2_))
              refine hK.out _ _ ?_
              clear hK K z0 f0
              refine done_ (done_of HT_.out (by kernel_rfl)) ?_
              go_wp2
              go_roundg (l.length - (i + 1))
              case measure => have := hq.out; omega
              case rel => exact ⟨i + 1, acc ++ [x], true, _, _, by omega, ⟨rfl⟩, rfl, by go_num, HFS, ⟨by rw [k1_snoc, k2_snoc]; exact HT.out⟩⟩
        | true =>
          have HFS := Aside0.mk (show fa a v (l.take (i + 1)) = (acc ++ [x], true) by rw [HFS.out]; unfold addF; rw [if_neg (by rintro ⟨_, h⟩; cases h)])
          go_wp2_with fail
          have HSP := Aside0.mk (fun (z : World) (h1 : z.heap[g]? = some (.cells #[vA, vV] 56 (0, 0))) (h2 : Below w3.heap.size w3 z) => (⟨(blk_cell h1 0).trans rfl, (blk_cell h1 1).trans rfl, (h2.cell (World.block_lt_of_cell? w3 _ B30.out)).trans B30.out, (h2.cell (World.block_lt_of_cell? w3 _ B31.out)).trans B31.out, (h2.cell (World.block_lt_of_cell? w3 _ Y0.out)).trans Y0.out, (h2.cell (World.block_lt_of_cell? w3 _ Y1.out)).trans Y1.out⟩ : z.cell? ⟨g, 0, none⟩ = some (vA) ∧ z.cell? ⟨g, 1, none⟩ = some (vV) ∧ z.cell? ⟨w.heap.size, 0, none⟩ = some (.slice (some ad) l.length c1) ∧ z.cell? ⟨w.heap.size, 1, none⟩ = some (.slice (some av) l.length c2) ∧ z.cell? (ad.add i) = some (.int .i64 x.1) ∧ z.cell? (av.add i) = some (.int .i64 x.2)))
          have K0 := HSP.out _ HT.out.drew.blk HT.out.drew.bel
          have HLX := Aside0.mk (show ((k1 acc).length + 1) * 8 ≤ 140737488355328 by rw [k1_len]; have := HAL.out; omega)
          have HLY := Aside0.mk (show ((k2 acc).length + 1) * 8 ≤ 140737488355328 by rw [k2_len]; have := HAL.out; omega)
          refine start_ (n := 22) (S := fun w' => w'.cell? ⟨g, 0, none⟩ = some (vA) ∧ w'.cell? ⟨g, 1, none⟩ = some (vV) ∧ w'.cell? ⟨w.heap.size, 0, none⟩ = some (.slice (some ad) l.length c1) ∧ w'.cell? ⟨w.heap.size, 1, none⟩ = some (.slice (some av) l.length c2) ∧ w'.cell? (ad.add i) = some (.int .i64 x.1) ∧ w'.cell? (av.add i) = some (.int .i64 x.2)) (ds := [19, 21]) #[false, false, false, false, false, false, false, false, false, false, false, false, false, false, false, false, false, false, false, false, false, false] (by kernel_rfl) rfl rfl K0 (fun hHeld => ?_)
          refine with_tabW stateAdd_any.tab8 stateAdd_any.bits8 (fun HT_ HW_ => ?_)
          have HT := Aside0.mk HT.out.drew
          clear K0
          generalize (wr).drew = W at HT hHeld ⊢
          -- 0: t39 := fieldAddr 56 t7 0 : 0 
          refine pure_ (i := 0) (N := some 39) (v := ?_) (a' := ?_) #[true, false, false, false, false, false, false, false, false, false, false, false, false, false, false, false, false, false, false, false, false, false] rfl rfl (any_of HT_.out (by kernel_rfl)) (fun _ _ _ h => h) (Or.inl ⟨by rfl, ?_⟩) ?_ ?_
          rotate_left
          · intro w'
            go_simp
            with_reducible rfl
          rotate_left
          · simp only [Act.put, List.setIfInBounds_toArray, List.set_cons_zero, List.set_cons_succ, i64_w, i32_w]
            rfl
          -- 2: t41 := fieldAddr 56 t3 0 : 0 
          refine pure_ (i := 2) (N := some 41) (v := ?_) (a' := ?_) #[true, false, true, false, false, false, false, false, false, false, false, false, false, false, false, false, false, false, false, false, false, false] rfl rfl (any_of HT_.out (by kernel_rfl)) (fun _ _ _ h => h) (Or.inl ⟨by rfl, ?_⟩) ?_ ?_
          rotate_left
          · intro w'
            go_simp
            with_reducible rfl
          rotate_left
          · simp only [Act.put, List.setIfInBounds_toArray, List.set_cons_zero, List.set_cons_succ, i64_w, i32_w]
            rfl
          -- 4: t43 := move t9 : 3 
          refine pure_ (i := 4) (N := some 43) (v := ?_) (a' := ?_) #[true, false, true, false, true, false, false, false, false, false, false, false, false, false, false, false, false, false, false, false, false, false] rfl rfl (any_of HT_.out (by kernel_rfl)) (fun _ _ _ h => h) (Or.inl ⟨by rfl, ?_⟩) ?_ ?_
          rotate_left
          · intro w'
            go_simp
            with_reducible rfl
          rotate_left
          · simp only [Act.put, List.setIfInBounds_toArray, List.set_cons_zero, List.set_cons_succ, i64_w, i32_w]
            rfl
          -- 9: t48 := fieldAddr 56 t7 1 : 0 
          refine pure_ (i := 9) (N := some 48) (v := ?_) (a' := ?_) #[true, false, true, false, true, false, false, false, false, true, false, false, false, false, false, false, false, false, false, false, false, false] rfl rfl (any_of HT_.out (by kernel_rfl)) (fun _ _ _ h => h) (Or.inl ⟨by rfl, ?_⟩) ?_ ?_
          rotate_left
          · intro w'
            go_simp
            with_reducible rfl
          rotate_left
          · simp only [Act.put, List.setIfInBounds_toArray, List.set_cons_zero, List.set_cons_succ, i64_w, i32_w]
            rfl
          -- 11: t50 := fieldAddr 56 t3 1 : 0 
          refine pure_ (i := 11) (N := some 50) (v := ?_) (a' := ?_) #[true, false, true, false, true, false, false, false, false, true, false, true, false, false, false, false, false, false, false, false, false, false] rfl rfl (any_of HT_.out (by kernel_rfl)) (fun _ _ _ h => h) (Or.inl ⟨by rfl, ?_⟩) ?_ ?_
          rotate_left
          · intro w'
            go_simp
            with_reducible rfl
          rotate_left
          · simp only [Act.put, List.setIfInBounds_toArray, List.set_cons_zero, List.set_cons_succ, i64_w, i32_w]
            rfl
          -- 13: t52 := move t9 : 3 
          refine pure_ (i := 13) (N := some 52) (v := ?_) (a' := ?_) #[true, false, true, false, true, false, false, false, false, true, false, true, false, true, false, false, false, false, false, false, false, false] rfl rfl (any_of HT_.out (by kernel_rfl)) (fun _ _ _ h => h) (Or.inl ⟨by rfl, ?_⟩) ?_ ?_
          rotate_left
          · intro w'
            go_simp
            with_reducible rfl
          rotate_left
          · simp only [Act.put, List.setIfInBounds_toArray, List.set_cons_zero, List.set_cons_succ, i64_w, i32_w]
            rfl
          -- 1: t40 := load 33 t39 : 33 
          refine take_ (i := 1) (N := some 40) (v := ?_) (a' := ?_) #[true, true, true, false, true, false, false, false, false, true, false, true, false, true, false, false, false, false, false, false, false, false] rfl rfl (take_ofW HT_.out HW_.out (by kernel_rfl)) (fun _ _ _ h => h) (Or.inl ⟨by rfl, ?_⟩) hHeld ?_ ?_
          rotate_left
          · rintro w' ⟨s0, s1, s2, s3, s4, s5⟩
            go_simp
            with_reducible rfl
          rotate_left
          · simp only [Act.put, List.setIfInBounds_toArray, List.set_cons_zero, List.set_cons_succ, i64_w, i32_w]
            rfl
          -- 3: t42 := load 33 t41 : 33 
          refine take_ (i := 3) (N := some 42) (v := ?_) (a' := ?_) #[true, true, true, true, true, false, false, false, false, true, false, true, false, true, false, false, false, false, false, false, false, false] rfl rfl (take_ofW HT_.out HW_.out (by kernel_rfl)) (fun _ _ _ h => h) (Or.inl ⟨by rfl, ?_⟩) hHeld ?_ ?_
          rotate_left
          · rintro w' ⟨s0, s1, s2, s3, s4, s5⟩
            go_simp
            with_reducible rfl
          rotate_left
          · simp only [Act.put, List.setIfInBounds_toArray, List.set_cons_zero, List.set_cons_succ, i64_w, i32_w]
            rfl
          -- 5: t44 := indexAddr 33 t42 t43 : 0 
          refine pure_ (i := 5) (N := some 44) (v := ?_) (a' := ?_) #[true, true, true, true, true, true, false, false, false, true, false, true, false, true, false, false, false, false, false, false, false, false] rfl rfl (any_of HT_.out (by kernel_rfl)) (fun _ _ _ h => h) (Or.inl ⟨by rfl, ?_⟩) ?_ ?_
          rotate_left
          · intro w'
            go_simp
            with_reducible rfl
          rotate_left
          · simp only [Act.put, List.setIfInBounds_toArray, List.set_cons_zero, List.set_cons_succ, i64_w, i32_w]
            rfl
          -- 6: t45 := load 2 t44 : 2 
          refine take_ (i := 6) (N := some 45) (v := ?_) (a' := ?_) #[true, true, true, true, true, true, true, false, false, true, false, true, false, true, false, false, false, false, false, false, false, false] rfl rfl (take_ofW HT_.out HW_.out (by kernel_rfl)) (fun _ _ _ h => h) (Or.inl ⟨by rfl, ?_⟩) hHeld ?_ ?_
          rotate_left
          · rintro w' ⟨s0, s1, s2, s3, s4, s5⟩
            go_simp
            with_reducible rfl
          rotate_left
          · simp only [Act.put, List.setIfInBounds_toArray, List.set_cons_zero, List.set_cons_succ, i64_w, i32_w]
            rfl
          -- 10: t49 := load 33 t48 : 33 
          refine take_ (i := 10) (N := some 49) (v := ?_) (a' := ?_) #[true, true, true, true, true, true, true, false, false, true, true, true, false, true, false, false, false, false, false, false, false, false] rfl rfl (take_ofW HT_.out HW_.out (by kernel_rfl)) (fun _ _ _ h => h) (Or.inl ⟨by rfl, ?_⟩) hHeld ?_ ?_
          rotate_left
          · rintro w' ⟨s0, s1, s2, s3, s4, s5⟩
            go_simp
            with_reducible rfl
          rotate_left
          · simp only [Act.put, List.setIfInBounds_toArray, List.set_cons_zero, List.set_cons_succ, i64_w, i32_w]
            rfl
          -- 12: t51 := load 33 t50 : 33 
          refine take_ (i := 12) (N := some 51) (v := ?_) (a' := ?_) #[true, true, true, true, true, true, true, false, false, true, true, true, true, true, false, false, false, false, false, false, false, false] rfl rfl (take_ofW HT_.out HW_.out (by kernel_rfl)) (fun _ _ _ h => h) (Or.inl ⟨by rfl, ?_⟩) hHeld ?_ ?_
          rotate_left
          · rintro w' ⟨s0, s1, s2, s3, s4, s5⟩
            go_simp
            with_reducible rfl
          rotate_left
          · simp only [Act.put, List.setIfInBounds_toArray, List.set_cons_zero, List.set_cons_succ, i64_w, i32_w]
            rfl
          -- 14: t53 := indexAddr 33 t51 t52 : 0 
          refine pure_ (i := 14) (N := some 53) (v := ?_) (a' := ?_) #[true, true, true, true, true, true, true, false, false, true, true, true, true, true, true, false, false, false, false, false, false, false] rfl rfl (any_of HT_.out (by kernel_rfl)) (fun _ _ _ h => h) (Or.inl ⟨by rfl, ?_⟩) ?_ ?_
          rotate_left
          · intro w'
            go_simp
            with_reducible rfl
          rotate_left
          · simp only [Act.put, List.setIfInBounds_toArray, List.set_cons_zero, List.set_cons_succ, i64_w, i32_w]
            rfl
          -- 15: t54 := load 2 t53 : 2 
          refine take_ (i := 15) (N := some 54) (v := ?_) (a' := ?_) #[true, true, true, true, true, true, true, false, false, true, true, true, true, true, true, true, false, false, false, false, false, false] rfl rfl (take_ofW HT_.out HW_.out (by kernel_rfl)) (fun _ _ _ h => h) (Or.inl ⟨by rfl, ?_⟩) hHeld ?_ ?_
          rotate_left
          · rintro w' ⟨s0, s1, s2, s3, s4, s5⟩
            go_simp
            with_reducible rfl
          rotate_left
          · simp only [Act.put, List.setIfInBounds_toArray, List.set_cons_zero, List.set_cons_succ, i64_w, i32_w]
            rfl
          refine join_ (σ := (Nat × Nat × Option Addr × Nat × Option Addr × Nat)) 3 #[true, true, true, true, true, true, true, true, true, true, true, true, true, true, true, true, true, true, true, false, false, false] (fun s_ => [(46, .slice (some ⟨s_.1, 0, none⟩) 1 1), (47, .slice s_.2.2.1 ((k1 acc).length + 1) s_.2.2.2.1), (55, .slice (some ⟨s_.2.1, 0, none⟩) 1 1), (56, .slice s_.2.2.2.2.1 ((k2 acc).length + 1) s_.2.2.2.2.2), (57, .pointer (some ⟨g, 0, none⟩))]) (fun s_ w' => TC w3 w3.heap.size g vA vV (.slice s_.2.2.1 ((k1 acc).length + 1) s_.2.2.2.1) (.slice s_.2.2.2.2.1 ((k2 acc).length + 1) s_.2.2.2.2.2) (k1 acc ++ [x.1]) (k2 acc ++ [x.2]) w') ?_ ?_
          rotate_left
          · intro hCont
            refine two_ (i := 7) (j := 16) (Ni := some 46) (Nj := some 55) #[true, true, true, true, true, true, true, true, false, true, true, true, true, true, true, true, false, false, false, false, false, false] #[true, true, true, true, true, true, true, false, false, true, true, true, true, true, true, true, true, false, false, false, false, false] rfl rfl rfl rfl (two_of HT_.out (by kernel_rfl)) (by decide) (by decide) (fun K hK => ?_) (fun K hK => ?_)
            · skip
              refine event_step (v := .slice (some ⟨W.heap.size, 0, none⟩) 1 1) (w1 := W.alloc (.cells #[.int .i64 x.1] 2)) (by rfl) (by first | (go_simp; done) | (go_simp; rfl)) ?_
              have HLA := Aside0.mk (HT.out.lit x.1)
              have HT := Aside0.mk (HT.out.alloc (.cells #[.int .i64 x.1] 2))
              refine hK.out _ _ (HSP.out _ HT.out.blk HT.out.bel) (fun hHeld => ?_)
              clear hK K
              refine norm_ (a' := ?_) ?_ ?_
              rotate_left
              · show Act.put _ (some 46) _ = _
                simp only [Act.put, List.setIfInBounds_toArray, List.set_cons_zero, List.set_cons_succ, i64_w, i32_w]
                rfl
              refine two_ (i := 8) (j := 16) (Ni := some 47) (Nj := some 55) #[true, true, true, true, true, true, true, true, true, true, true, true, true, true, true, true, false, false, false, false, false, false] #[true, true, true, true, true, true, true, true, false, true, true, true, true, true, true, true, true, false, false, false, false, false] rfl rfl rfl rfl (two_of HT_.out (by kernel_rfl)) (by decide) (by decide) (fun K hK => ?_) (fun K hK => ?_)
              · skip
                refine TC.appA (W := (W.alloc (.cells #[.int .i64 x.1] 2))) (p := x.1) (n := W.heap.size) HT.out HLA.out (by rfl) (.tmp 40) (.tmp 46) 33 (by rfl) Try.underlying33 info2 (by rfl) (by rfl) HLX.out ?_
                intro AA cA wA hT1 hL1
                have HT := Aside0.mk hT1
                clear hT1 hL1
                refine hK.out _ _ (HSP.out _ HT.out.blk HT.out.bel) (fun hHeld => ?_)
                clear hK K
                refine norm_ (a' := ?_) ?_ ?_
                rotate_left
                · show Act.put _ (some 47) _ = _
                  simp only [Act.put, List.setIfInBounds_toArray, List.set_cons_zero, List.set_cons_succ, i64_w, i32_w]
                  rfl
                refine pure_ (i := 18) (N := some 57) (v := ?_) (a' := ?_) #[true, true, true, true, true, true, true, true, true, true, true, true, true, true, true, true, false, false, true, false, false, false] rfl rfl (any_of HT_.out (by kernel_rfl)) (fun _ _ _ h => h) (Or.inl ⟨by rfl, ?_⟩) ?_ ?_
                rotate_left
                · intro w'
                  go_simp
                  with_reducible rfl
                rotate_left
                · simp only [Act.put, List.setIfInBounds_toArray, List.set_cons_zero, List.set_cons_succ, i64_w, i32_w]
                  rfl
                refine one_ (i := 16) (N := some 55) #[true, true, true, true, true, true, true, true, true, true, true, true, true, true, true, true, true, false, true, false, false, false] rfl rfl (one_of HT_.out (by kernel_rfl)) (by decide) (fun K hK => ?_)
                refine event_step (v := .slice (some ⟨wA.heap.size, 0, none⟩) 1 1) (w1 := wA.alloc (.cells #[.int .i64 x.2] 2)) (by rfl) (by first | (go_simp; done) | (go_simp; rfl)) ?_
                have HLV := Aside0.mk (HT.out.lit x.2)
                have HT := Aside0.mk (HT.out.alloc (.cells #[.int .i64 x.2] 2))
                refine hK.out _ _ (HSP.out _ HT.out.blk HT.out.bel) (fun hHeld => ?_)
                clear hK K
                refine norm_ (a' := ?_) ?_ ?_
                rotate_left
                · show Act.put _ (some 55) _ = _
                  simp only [Act.put, List.setIfInBounds_toArray, List.set_cons_zero, List.set_cons_succ, i64_w, i32_w]
                  rfl
                refine one_ (i := 17) (N := some 56) #[true, true, true, true, true, true, true, true, true, true, true, true, true, true, true, true, true, true, true, false, false, false] rfl rfl (one_of HT_.out (by kernel_rfl)) (by decide) (fun K hK => ?_)
                refine TC.appV (W := (wA.alloc (.cells #[.int .i64 x.2] 2))) (p := x.2) (n := wA.heap.size) HT.out HLV.out (by rfl) (.tmp 49) (.tmp 55) 33 (by rfl) Try.underlying33 info2 (by rfl) (by rfl) HLY.out ?_
                intro AV cV wV hT1 hL1
                have HT := Aside0.mk hT1
                clear hT1 hL1
                refine hK.out _ _ (HSP.out _ HT.out.blk HT.out.bel) (fun hHeld => ?_)
                clear hK K
                refine norm_ (a' := ?_) ?_ ?_
                rotate_left
                · show Act.put _ (some 56) _ = _
                  simp only [Act.put, List.setIfInBounds_toArray, List.set_cons_zero, List.set_cons_succ, i64_w, i32_w]
                  rfl
                exact norm_ (by simp only [putAll, Act.put, List.setIfInBounds_toArray, List.set_cons_zero, List.set_cons_succ]) (hCont (W.heap.size, wA.heap.size, AA, cA, AV, cV) _ HT.out)
              · skip
                refine event_step (v := .slice (some ⟨(W.alloc (.cells #[.int .i64 x.1] 2)).heap.size, 0, none⟩) 1 1) (w1 := (W.alloc (.cells #[.int .i64 x.1] 2)).alloc (.cells #[.int .i64 x.2] 2)) (by rfl) (by first | (go_simp; done) | (go_simp; rfl)) ?_
                have HLV := Aside0.mk (HT.out.lit x.2)
                have HLA := Aside0.mk (HLA.out.alloc (.cells #[.int .i64 x.2] 2))
                have HT := Aside0.mk (HT.out.alloc (.cells #[.int .i64 x.2] 2))
                refine hK.out _ _ (HSP.out _ HT.out.blk HT.out.bel) (fun hHeld => ?_)
                clear hK K
                refine norm_ (a' := ?_) ?_ ?_
                rotate_left
                · show Act.put _ (some 55) _ = _
                  simp only [Act.put, List.setIfInBounds_toArray, List.set_cons_zero, List.set_cons_succ, i64_w, i32_w]
                  rfl
                refine one_ (i := 8) (N := some 47) #[true, true, true, true, true, true, true, true, true, true, true, true, true, true, true, true, true, false, false, false, false, false] rfl rfl (one_of HT_.out (by kernel_rfl)) (by decide) (fun K hK => ?_)
                refine TC.appA (W := ((W.alloc (.cells #[.int .i64 x.1] 2)).alloc (.cells #[.int .i64 x.2] 2))) (p := x.1) (n := W.heap.size) HT.out HLA.out (by rfl) (.tmp 40) (.tmp 46) 33 (by rfl) Try.underlying33 info2 (by rfl) (by rfl) HLX.out ?_
                intro AA cA wA hT1 hL1
                have HT := Aside0.mk hT1
                have HLV := Aside0.mk (hL1 _ _ HLV.out)
                clear hT1 hL1
                refine hK.out _ _ (HSP.out _ HT.out.blk HT.out.bel) (fun hHeld => ?_)
                clear hK K
                refine norm_ (a' := ?_) ?_ ?_
                rotate_left
                · show Act.put _ (some 47) _ = _
                  simp only [Act.put, List.setIfInBounds_toArray, List.set_cons_zero, List.set_cons_succ, i64_w, i32_w]
                  rfl
                refine pure_ (i := 18) (N := some 57) (v := ?_) (a' := ?_) #[true, true, true, true, true, true, true, true, true, true, true, true, true, true, true, true, true, false, true, false, false, false] rfl rfl (any_of HT_.out (by kernel_rfl)) (fun _ _ _ h => h) (Or.inl ⟨by rfl, ?_⟩) ?_ ?_
                rotate_left
                · intro w'
                  go_simp
                  with_reducible rfl
                rotate_left
                · simp only [Act.put, List.setIfInBounds_toArray, List.set_cons_zero, List.set_cons_succ, i64_w, i32_w]
                  rfl
                refine one_ (i := 17) (N := some 56) #[true, true, true, true, true, true, true, true, true, true, true, true, true, true, true, true, true, true, true, false, false, false] rfl rfl (one_of HT_.out (by kernel_rfl)) (by decide) (fun K hK => ?_)
                refine TC.appV (W := wA) (p := x.2) (n := (W.alloc (.cells #[.int .i64 x.1] 2)).heap.size) HT.out HLV.out (by rfl) (.tmp 49) (.tmp 55) 33 (by rfl) Try.underlying33 info2 (by rfl) (by rfl) HLY.out ?_
                intro AV cV wV hT1 hL1
                have HT := Aside0.mk hT1
                clear hT1 hL1
                refine hK.out _ _ (HSP.out _ HT.out.blk HT.out.bel) (fun hHeld => ?_)
                clear hK K
                refine norm_ (a' := ?_) ?_ ?_
                rotate_left
                · show Act.put _ (some 56) _ = _
                  simp only [Act.put, List.setIfInBounds_toArray, List.set_cons_zero, List.set_cons_succ, i64_w, i32_w]
                  rfl
                exact norm_ (by simp only [putAll, Act.put, List.setIfInBounds_toArray, List.set_cons_zero, List.set_cons_succ]) (hCont (W.heap.size, (W.alloc (.cells #[.int .i64 x.1] 2)).heap.size, AA, cA, AV, cV) _ HT.out)
            · skip
              refine event_step (v := .slice (some ⟨W.heap.size, 0, none⟩) 1 1) (w1 := W.alloc (.cells #[.int .i64 x.2] 2)) (by rfl) (by first | (go_simp; done) | (go_simp; rfl)) ?_
              have HLV := Aside0.mk (HT.out.lit x.2)
              have HT := Aside0.mk (HT.out.alloc (.cells #[.int .i64 x.2] 2))
              refine hK.out _ _ (HSP.out _ HT.out.blk HT.out.bel) (fun hHeld => ?_)
              clear hK K
              refine norm_ (a' := ?_) ?_ ?_
              rotate_left
              · show Act.put _ (some 55) _ = _
                simp only [Act.put, List.setIfInBounds_toArray, List.set_cons_zero, List.set_cons_succ, i64_w, i32_w]
                rfl
              refine one_ (i := 7) (N := some 46) #[true, true, true, true, true, true, true, true, false, true, true, true, true, true, true, true, true, false, false, false, false, false] rfl rfl (one_of HT_.out (by kernel_rfl)) (by decide) (fun K hK => ?_)
              refine event_step (v := .slice (some ⟨(W.alloc (.cells #[.int .i64 x.2] 2)).heap.size, 0, none⟩) 1 1) (w1 := (W.alloc (.cells #[.int .i64 x.2] 2)).alloc (.cells #[.int .i64 x.1] 2)) (by rfl) (by first | (go_simp; done) | (go_simp; rfl)) ?_
              have HLA := Aside0.mk (HT.out.lit x.1)
              have HLV := Aside0.mk (HLV.out.alloc (.cells #[.int .i64 x.1] 2))
              have HT := Aside0.mk (HT.out.alloc (.cells #[.int .i64 x.1] 2))
              refine hK.out _ _ (HSP.out _ HT.out.blk HT.out.bel) (fun hHeld => ?_)
              clear hK K
              refine norm_ (a' := ?_) ?_ ?_
              rotate_left
              · show Act.put _ (some 46) _ = _
                simp only [Act.put, List.setIfInBounds_toArray, List.set_cons_zero, List.set_cons_succ, i64_w, i32_w]
                rfl
              refine one_ (i := 8) (N := some 47) #[true, true, true, true, true, true, true, true, true, true, true, true, true, true, true, true, true, false, false, false, false, false] rfl rfl (one_of HT_.out (by kernel_rfl)) (by decide) (fun K hK => ?_)
              refine TC.appA (W := ((W.alloc (.cells #[.int .i64 x.2] 2)).alloc (.cells #[.int .i64 x.1] 2))) (p := x.1) (n := (W.alloc (.cells #[.int .i64 x.2] 2)).heap.size) HT.out HLA.out (by rfl) (.tmp 40) (.tmp 46) 33 (by rfl) Try.underlying33 info2 (by rfl) (by rfl) HLX.out ?_
              intro AA cA wA hT1 hL1
              have HT := Aside0.mk hT1
              have HLV := Aside0.mk (hL1 _ _ HLV.out)
              clear hT1 hL1
              refine hK.out _ _ (HSP.out _ HT.out.blk HT.out.bel) (fun hHeld => ?_)
              clear hK K
              refine norm_ (a' := ?_) ?_ ?_
              rotate_left
              · show Act.put _ (some 47) _ = _
                simp only [Act.put, List.setIfInBounds_toArray, List.set_cons_zero, List.set_cons_succ, i64_w, i32_w]
                rfl
              refine pure_ (i := 18) (N := some 57) (v := ?_) (a' := ?_) #[true, true, true, true, true, true, true, true, true, true, true, true, true, true, true, true, true, false, true, false, false, false] rfl rfl (any_of HT_.out (by kernel_rfl)) (fun _ _ _ h => h) (Or.inl ⟨by rfl, ?_⟩) ?_ ?_
              rotate_left
              · intro w'
                go_simp
                with_reducible rfl
              rotate_left
              · simp only [Act.put, List.setIfInBounds_toArray, List.set_cons_zero, List.set_cons_succ, i64_w, i32_w]
                rfl
              refine one_ (i := 17) (N := some 56) #[true, true, true, true, true, true, true, true, true, true, true, true, true, true, true, true, true, true, true, false, false, false] rfl rfl (one_of HT_.out (by kernel_rfl)) (by decide) (fun K hK => ?_)
              refine TC.appV (W := wA) (p := x.2) (n := W.heap.size) HT.out HLV.out (by rfl) (.tmp 49) (.tmp 55) 33 (by rfl) Try.underlying33 info2 (by rfl) (by rfl) HLY.out ?_
              intro AV cV wV hT1 hL1
              have HT := Aside0.mk hT1
              clear hT1 hL1
              refine hK.out _ _ (HSP.out _ HT.out.blk HT.out.bel) (fun hHeld => ?_)
              clear hK K
              refine norm_ (a' := ?_) ?_ ?_
              rotate_left
              · show Act.put _ (some 56) _ = _
                simp only [Act.put, List.setIfInBounds_toArray, List.set_cons_zero, List.set_cons_succ, i64_w, i32_w]
                rfl
              exact norm_ (by simp only [putAll, Act.put, List.setIfInBounds_toArray, List.set_cons_zero, List.set_cons_succ]) (hCont ((W.alloc (.cells #[.int .i64 x.2] 2)).heap.size, W.heap.size, AA, cA, AV, cV) _ HT.out)
          · skip
            rintro ⟨nA, nV, A1_, c1_, A2_, c2_⟩ w_ hT_
            have HT := Aside0.mk hT_
            clear hT_
            simp only [putAll, Act.put, List.setIfInBounds_toArray, List.set_cons_zero, List.set_cons_succ]
            -- 19: _ := store 33 t57 t47 : 0 
            refine last_ (i := 19) (N := none) #[true, true, true, true, true, true, true, true, true, true, true, true, true, true, true, true, true, true, true, true, false, false] rfl rfl (one_of HT_.out (by kernel_rfl)) (by decide) (fun K hK => ?_)
            have z0 := (blk_cell HT.out.blk 0).trans (rfl : _ = some (vA))
            have f0 := blk_frozen HT.out.blk 0
            refine skip_ (w1 := w_.setCell ⟨g, 0, none⟩ (.slice A1_ ((k1 acc).length + 1) c1_)) (by rfl) rfl (by first | (go_simp; done) | (go_simp; rfl)) ?_
            have HT := Aside0.mk (HT.out.set0 (.slice A1_ ((k1 acc).length + 1) c1_))
            refine hK.out _ _ ?_
            clear hK K z0 f0
            -- 20: t58 := fieldAddr 56 t7 1 : 0 
            refine pure_ (i := 20) (N := some 58) (v := ?_) (a' := ?_) #[true, true, true, true, true, true, true, true, true, true, true, true, true, true, true, true, true, true, true, true, true, false] rfl rfl (any_of HT_.out (by kernel_rfl)) (fun _ _ _ h => h) (Or.inl ⟨by rfl, ?_⟩) ?_ ?_
            rotate_left
            · intro w'
              go_simp
              with_reducible rfl
            rotate_left
            · simp only [Act.put, List.setIfInBounds_toArray, List.set_cons_zero, List.set_cons_succ, i64_w, i32_w]
              rfl
            -- 21: _ := store 33 t58 t56 : 0 
            refine last_ (i := 21) (N := none) #[true, true, true, true, true, true, true, true, true, true, true, true, true, true, true, true, true, true, true, true, true, true] rfl rfl (one_of HT_.out (by kernel_rfl)) (by decide) (fun K hK => ?_)
            have z0 := (blk_cell HT.out.blk 1).trans (rfl : _ = some (vV))
            have f0 := blk_frozen HT.out.blk 1
            refine skip_ (w1 := (w_.setCell ⟨g, 0, none⟩ (.slice A1_ ((k1 acc).length + 1) c1_)).setCell ⟨g, 1, none⟩ (.slice A2_ ((k2 acc).length + 1) c2_)) (by rfl) rfl (by first | (go_simp; done) | (go_simp; rfl)) ?_
            have HT := Aside0.mk (HT.out.set1 (.slice A2_ ((k2 acc).length + 1) c2_))
            refine hK.out _ _ ?_
            clear hK K z0 f0
            refine done_ (done_of HT_.out (by kernel_rfl)) ?_
            go_wp2
            go_roundg (l.length - (i + 1))
            case measure => have := hq.out; omega
            case rel => exact ⟨i + 1, acc ++ [x], true, _, _, by omega, ⟨rfl⟩, rfl, by go_num, HFS, ⟨by rw [k1_snoc, k2_snoc]; exact HT.out⟩⟩
      · have HFS := Aside0.mk (show fa a v (l.take (i + 1)) = (acc ++ [x], d) by rw [HFS.out]; unfold addF; rw [if_neg (by rintro ⟨h, _⟩; exact hc h)])
        go_wp2_with fail
        have HSP := Aside0.mk (fun (z : World) (h1 : z.heap[g]? = some (.cells #[vA, vV] 56 (0, 0))) (h2 : Below w3.heap.size w3 z) => (⟨(blk_cell h1 0).trans rfl, (blk_cell h1 1).trans rfl, (h2.cell (World.block_lt_of_cell? w3 _ B30.out)).trans B30.out, (h2.cell (World.block_lt_of_cell? w3 _ B31.out)).trans B31.out, (h2.cell (World.block_lt_of_cell? w3 _ Y0.out)).trans Y0.out, (h2.cell (World.block_lt_of_cell? w3 _ Y1.out)).trans Y1.out⟩ : z.cell? ⟨g, 0, none⟩ = some (vA) ∧ z.cell? ⟨g, 1, none⟩ = some (vV) ∧ z.cell? ⟨w.heap.size, 0, none⟩ = some (.slice (some ad) l.length c1) ∧ z.cell? ⟨w.heap.size, 1, none⟩ = some (.slice (some av) l.length c2) ∧ z.cell? (ad.add i) = some (.int .i64 x.1) ∧ z.cell? (av.add i) = some (.int .i64 x.2)))
        have K0 := HSP.out _ HT.out.drew.blk HT.out.drew.bel
        have HLX := Aside0.mk (show ((k1 acc).length + 1) * 8 ≤ 140737488355328 by rw [k1_len]; have := HAL.out; omega)
        have HLY := Aside0.mk (show ((k2 acc).length + 1) * 8 ≤ 140737488355328 by rw [k2_len]; have := HAL.out; omega)
        refine start_ (n := 22) (S := fun w' => w'.cell? ⟨g, 0, none⟩ = some (vA) ∧ w'.cell? ⟨g, 1, none⟩ = some (vV) ∧ w'.cell? ⟨w.heap.size, 0, none⟩ = some (.slice (some ad) l.length c1) ∧ w'.cell? ⟨w.heap.size, 1, none⟩ = some (.slice (some av) l.length c2) ∧ w'.cell? (ad.add i) = some (.int .i64 x.1) ∧ w'.cell? (av.add i) = some (.int .i64 x.2)) (ds := [19, 21]) #[false, false, false, false, false, false, false, false, false, false, false, false, false, false, false, false, false, false, false, false, false, false] (by kernel_rfl) rfl rfl K0 (fun hHeld => ?_)
        refine with_tabW stateAdd_any.tab8 stateAdd_any.bits8 (fun HT_ HW_ => ?_)
        have HT := Aside0.mk HT.out.drew
        clear K0
        generalize (wr).drew = W at HT hHeld ⊢
        -- 0: t39 := fieldAddr 56 t7 0 : 0 
        refine pure_ (i := 0) (N := some 39) (v := ?_) (a' := ?_) #[true, false, false, false, false, false, false, false, false, false, false, false, false, false, false, false, false, false, false, false, false, false] rfl rfl (any_of HT_.out (by kernel_rfl)) (fun _ _ _ h => h) (Or.inl ⟨by rfl, ?_⟩) ?_ ?_
        rotate_left
        · intro w'
          go_simp
          with_reducible rfl
        rotate_left
        · simp only [Act.put, List.setIfInBounds_toArray, List.set_cons_zero, List.set_cons_succ, i64_w, i32_w]
          rfl
        -- 2: t41 := fieldAddr 56 t3 0 : 0 
        refine pure_ (i := 2) (N := some 41) (v := ?_) (a' := ?_) #[true, false, true, false, false, false, false, false, false, false, false, false, false, false, false, false, false, false, false, false, false, false] rfl rfl (any_of HT_.out (by kernel_rfl)) (fun _ _ _ h => h) (Or.inl ⟨by rfl, ?_⟩) ?_ ?_
        rotate_left
        · intro w'
          go_simp
          with_reducible rfl
        rotate_left
        · simp only [Act.put, List.setIfInBounds_toArray, List.set_cons_zero, List.set_cons_succ, i64_w, i32_w]
          rfl
        -- 4: t43 := move t9 : 3 
        refine pure_ (i := 4) (N := some 43) (v := ?_) (a' := ?_) #[true, false, true, false, true, false, false, false, false, false, false, false, false, false, false, false, false, false, false, false, false, false] rfl rfl (any_of HT_.out (by kernel_rfl)) (fun _ _ _ h => h) (Or.inl ⟨by rfl, ?_⟩) ?_ ?_
        rotate_left
        · intro w'
          go_simp
          with_reducible rfl
        rotate_left
        · simp only [Act.put, List.setIfInBounds_toArray, List.set_cons_zero, List.set_cons_succ, i64_w, i32_w]
          rfl
        -- 9: t48 := fieldAddr 56 t7 1 : 0 
        refine pure_ (i := 9) (N := some 48) (v := ?_) (a' := ?_) #[true, false, true, false, true, false, false, false, false, true, false, false, false, false, false, false, false, false, false, false, false, false] rfl rfl (any_of HT_.out (by kernel_rfl)) (fun _ _ _ h => h) (Or.inl ⟨by rfl, ?_⟩) ?_ ?_
        rotate_left
        · intro w'
          go_simp
          with_reducible rfl
        rotate_left
        · simp only [Act.put, List.setIfInBounds_toArray, List.set_cons_zero, List.set_cons_succ, i64_w, i32_w]
          rfl
        -- 11: t50 := fieldAddr 56 t3 1 : 0 
        refine pure_ (i := 11) (N := some 50) (v := ?_) (a' := ?_) #[true, false, true, false, true, false, false, false, false, true, false, true, false, false, false, false, false, false, false, false, false, false] rfl rfl (any_of HT_.out (by kernel_rfl)) (fun _ _ _ h => h) (Or.inl ⟨by rfl, ?_⟩) ?_ ?_
        rotate_left
        · intro w'
          go_simp
          with_reducible rfl
        rotate_left
        · simp only [Act.put, List.setIfInBounds_toArray, List.set_cons_zero, List.set_cons_succ, i64_w, i32_w]
          rfl
        -- 13: t52 := move t9 : 3 
        refine pure_ (i := 13) (N := some 52) (v := ?_) (a' := ?_) #[true, false, true, false, true, false, false, false, false, true, false, true, false, true, false, false, false, false, false, false, false, false] rfl rfl (any_of HT_.out (by kernel_rfl)) (fun _ _ _ h => h) (Or.inl ⟨by rfl, ?_⟩) ?_ ?_
        rotate_left
        · intro w'
          go_simp
          with_reducible rfl
        rotate_left
        · simp only [Act.put, List.setIfInBounds_toArray, List.set_cons_zero, List.set_cons_succ, i64_w, i32_w]
          rfl
        -- 1: t40 := load 33 t39 : 33 
        refine take_ (i := 1) (N := some 40) (v := ?_) (a' := ?_) #[true, true, true, false, true, false, false, false, false, true, false, true, false, true, false, false, false, false, false, false, false, false] rfl rfl (take_ofW HT_.out HW_.out (by kernel_rfl)) (fun _ _ _ h => h) (Or.inl ⟨by rfl, ?_⟩) hHeld ?_ ?_
        rotate_left
        · rintro w' ⟨s0, s1, s2, s3, s4, s5⟩
          go_simp
          with_reducible rfl
        rotate_left
        · simp only [Act.put, List.setIfInBounds_toArray, List.set_cons_zero, List.set_cons_succ, i64_w, i32_w]
          rfl
        -- 3: t42 := load 33 t41 : 33 
        refine take_ (i := 3) (N := some 42) (v := ?_) (a' := ?_) #[true, true, true, true, true, false, false, false, false, true, false, true, false, true, false, false, false, false, false, false, false, false] rfl rfl (take_ofW HT_.out HW_.out (by kernel_rfl)) (fun _ _ _ h => h) (Or.inl ⟨by rfl, ?_⟩) hHeld ?_ ?_
        rotate_left
        · rintro w' ⟨s0, s1, s2, s3, s4, s5⟩
          go_simp
          with_reducible rfl
        rotate_left
        · simp only [Act.put, List.setIfInBounds_toArray, List.set_cons_zero, List.set_cons_succ, i64_w, i32_w]
          rfl
        -- 5: t44 := indexAddr 33 t42 t43 : 0 
        refine pure_ (i := 5) (N := some 44) (v := ?_) (a' := ?_) #[true, true, true, true, true, true, false, false, false, true, false, true, false, true, false, false, false, false, false, false, false, false] rfl rfl (any_of HT_.out (by kernel_rfl)) (fun _ _ _ h => h) (Or.inl ⟨by rfl, ?_⟩) ?_ ?_
        rotate_left
        · intro w'
          go_simp
          with_reducible rfl
        rotate_left
        · simp only [Act.put, List.setIfInBounds_toArray, List.set_cons_zero, List.set_cons_succ, i64_w, i32_w]
          rfl
        -- 6: t45 := load 2 t44 : 2 
        refine take_ (i := 6) (N := some 45) (v := ?_) (a' := ?_) #[true, true, true, true, true, true, true, false, false, true, false, true, false, true, false, false, false, false, false, false, false, false] rfl rfl (take_ofW HT_.out HW_.out (by kernel_rfl)) (fun _ _ _ h => h) (Or.inl ⟨by rfl, ?_⟩) hHeld ?_ ?_
        rotate_left
        · rintro w' ⟨s0, s1, s2, s3, s4, s5⟩
          go_simp
          with_reducible rfl
        rotate_left
        · simp only [Act.put, List.setIfInBounds_toArray, List.set_cons_zero, List.set_cons_succ, i64_w, i32_w]
          rfl
        -- 10: t49 := load 33 t48 : 33 
        refine take_ (i := 10) (N := some 49) (v := ?_) (a' := ?_) #[true, true, true, true, true, true, true, false, false, true, true, true, false, true, false, false, false, false, false, false, false, false] rfl rfl (take_ofW HT_.out HW_.out (by kernel_rfl)) (fun _ _ _ h => h) (Or.inl ⟨by rfl, ?_⟩) hHeld ?_ ?_
        rotate_left
        · rintro w' ⟨s0, s1, s2, s3, s4, s5⟩
          go_simp
          with_reducible rfl
        rotate_left
        · simp only [Act.put, List.setIfInBounds_toArray, List.set_cons_zero, List.set_cons_succ, i64_w, i32_w]
          rfl
        -- 12: t51 := load 33 t50 : 33 
        refine take_ (i := 12) (N := some 51) (v := ?_) (a' := ?_) #[true, true, true, true, true, true, true, false, false, true, true, true, true, true, false, false, false, false, false, false, false, false] rfl rfl (take_ofW HT_.out HW_.out (by kernel_rfl)) (fun _ _ _ h => h) (Or.inl ⟨by rfl, ?_⟩) hHeld ?_ ?_
        rotate_left
        · rintro w' ⟨s0, s1, s2, s3, s4, s5⟩
          go_simp
          with_reducible rfl
        rotate_left
        · simp only [Act.put, List.setIfInBounds_toArray, List.set_cons_zero, List.set_cons_succ, i64_w, i32_w]
          rfl
        -- 14: t53 := indexAddr 33 t51 t52 : 0 
        refine pure_ (i := 14) (N := some 53) (v := ?_) (a' := ?_) #[true, true, true, true, true, true, true, false, false, true, true, true, true, true, true, false, false, false, false, false, false, false] rfl rfl (any_of HT_.out (by kernel_rfl)) (fun _ _ _ h => h) (Or.inl ⟨by rfl, ?_⟩) ?_ ?_
        rotate_left
        · intro w'
          go_simp
          with_reducible rfl
        rotate_left
        · simp only [Act.put, List.setIfInBounds_toArray, List.set_cons_zero, List.set_cons_succ, i64_w, i32_w]
          rfl
        -- 15: t54 := load 2 t53 : 2 
        refine take_ (i := 15) (N := some 54) (v := ?_) (a' := ?_) #[true, true, true, true, true, true, true, false, false, true, true, true, true, true, true, true, false, false, false, false, false, false] rfl rfl (take_ofW HT_.out HW_.out (by kernel_rfl)) (fun _ _ _ h => h) (Or.inl ⟨by rfl, ?_⟩) hHeld ?_ ?_
        rotate_left
        · rintro w' ⟨s0, s1, s2, s3, s4, s5⟩
          go_simp
          with_reducible rfl
        rotate_left
        · simp only [Act.put, List.setIfInBounds_toArray, List.set_cons_zero, List.set_cons_succ, i64_w, i32_w]
          rfl
        refine join_ (σ := (Nat × Nat × Option Addr × Nat × Option Addr × Nat)) 3 #[true, true, true, true, true, true, true, true, true, true, true, true, true, true, true, true, true, true, true, false, false, false] (fun s_ => [(46, .slice (some ⟨s_.1, 0, none⟩) 1 1), (47, .slice s_.2.2.1 ((k1 acc).length + 1) s_.2.2.2.1), (55, .slice (some ⟨s_.2.1, 0, none⟩) 1 1), (56, .slice s_.2.2.2.2.1 ((k2 acc).length + 1) s_.2.2.2.2.2), (57, .pointer (some ⟨g, 0, none⟩))]) (fun s_ w' => TC w3 w3.heap.size g vA vV (.slice s_.2.2.1 ((k1 acc).length + 1) s_.2.2.2.1) (.slice s_.2.2.2.2.1 ((k2 acc).length + 1) s_.2.2.2.2.2) (k1 acc ++ [x.1]) (k2 acc ++ [x.2]) w') ?_ ?_
        rotate_left
        · intro hCont
          refine two_ (i := 7) (j := 16) (Ni := some 46) (Nj := some 55) #[true, true, true, true, true, true, true, true, false, true, true, true, true, true, true, true, false, false, false, false, false, false] #[true, true, true, true, true, true, true, false, false, true, true, true, true, true, true, true, true, false, false, false, false, false] rfl rfl rfl rfl (two_of HT_.out (by kernel_rfl)) (by decide) (by decide) (fun K hK => ?_) (fun K hK => ?_)
          · skip
            refine event_step (v := .slice (some ⟨W.heap.size, 0, none⟩) 1 1) (w1 := W.alloc (.cells #[.int .i64 x.1] 2)) (by rfl) (by first | (go_simp; done) | (go_simp; rfl)) ?_
            have HLA := Aside0.mk (HT.out.lit x.1)
            have HT := Aside0.mk (HT.out.alloc (.cells #[.int .i64 x.1] 2))
            refine hK.out _ _ (HSP.out _ HT.out.blk HT.out.bel) (fun hHeld => ?_)
            clear hK K
            refine norm_ (a' := ?_) ?_ ?_
            rotate_left
            · show Act.put _ (some 46) _ = _
              simp only [Act.put, List.setIfInBounds_toArray, List.set_cons_zero, List.set_cons_succ, i64_w, i32_w]
              rfl
            refine two_ (i := 8) (j := 16) (Ni := some 47) (Nj := some 55) #[true, true, true, true, true, true, true, true, true, true, true, true, true, true, true, true, false, false, false, false, false, false] #[true, true, true, true, true, true, true, true, false, true, true, true, true, true, true, true, true, false, false, false, false, false] rfl rfl rfl rfl (two_of HT_.out (by kernel_rfl)) (by decide) (by decide) (fun K hK => ?_) (fun K hK => ?_)
            · skip
              refine TC.appA (W := (W.alloc (.cells #[.int .i64 x.1] 2))) (p := x.1) (n := W.heap.size) HT.out HLA.out (by rfl) (.tmp 40) (.tmp 46) 33 (by rfl) Try.underlying33 info2 (by rfl) (by rfl) HLX.out ?_
              intro AA cA wA hT1 hL1
              have HT := Aside0.mk hT1
              clear hT1 hL1
              refine hK.out _ _ (HSP.out _ HT.out.blk HT.out.bel) (fun hHeld => ?_)
              clear hK K
              refine norm_ (a' := ?_) ?_ ?_
              rotate_left
              · show Act.put _ (some 47) _ = _
                simp only [Act.put, List.setIfInBounds_toArray, List.set_cons_zero, List.set_cons_succ, i64_w, i32_w]
                rfl
              refine pure_ (i := 18) (N := some 57) (v := ?_) (a' := ?_) #[true, true, true, true, true, true, true, true, true, true, true, true, true, true, true, true, false, false, true, false, false, false] rfl rfl (any_of HT_.out (by kernel_rfl)) (fun _ _ _ h => h) (Or.inl ⟨by rfl, ?_⟩) ?_ ?_
              rotate_left
              · intro w'
                go_simp
                with_reducible rfl
              rotate_left
              · simp only [Act.put, List.setIfInBounds_toArray, List.set_cons_zero, List.set_cons_succ, i64_w, i32_w]
                rfl
              refine one_ (i := 16) (N := some 55) #[true, true, true, true, true, true, true, true, true, true, true, true, true, true, true, true, true, false, true, false, false, false] rfl rfl (one_of HT_.out (by kernel_rfl)) (by decide) (fun K hK => ?_)
              refine event_step (v := .slice (some ⟨wA.heap.size, 0, none⟩) 1 1) (w1 := wA.alloc (.cells #[.int .i64 x.2] 2)) (by rfl) (by first | (go_simp; done) | (go_simp; rfl)) ?_
              have HLV := Aside0.mk (HT.out.lit x.2)
              have HT := Aside0.mk (HT.out.alloc (.cells #[.int .i64 x.2] 2))
              refine hK.out _ _ (HSP.out _ HT.out.blk HT.out.bel) (fun hHeld => ?_)
              clear hK K
              refine norm_ (a' := ?_) ?_ ?_
              rotate_left
              · show Act.put _ (some 55) _ = _
                simp only [Act.put, List.setIfInBounds_toArray, List.set_cons_zero, List.set_cons_succ, i64_w, i32_w]
                rfl
              refine one_ (i := 17) (N := some 56) #[true, true, true, true, true, true, true, true, true, true, true, true, true, true, true, true, true, true, true, false, false, false] rfl rfl (one_of HT_.out (by kernel_rfl)) (by decide) (fun K hK => ?_)
              refine TC.appV (W := (wA.alloc (.cells #[.int .i64 x.2] 2))) (p := x.2) (n := wA.heap.size) HT.out HLV.out (by rfl) (.tmp 49) (.tmp 55) 33 (by rfl) Try.underlying33 info2 (by rfl) (by rfl) HLY.out ?_
              intro AV cV wV hT1 hL1
              have HT := Aside0.mk hT1
              clear hT1 hL1
              refine hK.out _ _ (HSP.out _ HT.out.blk HT.out.bel) (fun hHeld => ?_)
              clear hK K
              refine norm_ (a' := ?_) ?_ ?_
              rotate_left
              · show Act.put _ (some 56) _ = _
                simp only [Act.put, List.setIfInBounds_toArray, List.set_cons_zero, List.set_cons_succ, i64_w, i32_w]
                rfl
              exact norm_ (by simp only [putAll, Act.put, List.setIfInBounds_toArray, List.set_cons_zero, List.set_cons_succ]) (hCont (W.heap.size, wA.heap.size, AA, cA, AV, cV) _ HT.out)
            · skip
              refine event_step (v := .slice (some ⟨(W.alloc (.cells #[.int .i64 x.1] 2)).heap.size, 0, none⟩) 1 1) (w1 := (W.alloc (.cells #[.int .i64 x.1] 2)).alloc (.cells #[.int .i64 x.2] 2)) (by rfl) (by first | (go_simp; done) | (go_simp; rfl)) ?_
              have HLV := Aside0.mk (HT.out.lit x.2)
              have HLA := Aside0.mk (HLA.out.alloc (.cells #[.int .i64 x.2] 2))
              have HT := Aside0.mk (HT.out.alloc (.cells #[.int .i64 x.2] 2))
              refine hK.out _ _ (HSP.out _ HT.out.blk HT.out.bel) (fun hHeld => ?_)
              clear hK K
              refine norm_ (a' := ?_) ?_ ?_
              rotate_left
              · show Act.put _ (some 55) _ = _
                simp only [Act.put, List.setIfInBounds_toArray, List.set_cons_zero, List.set_cons_succ, i64_w, i32_w]
                rfl
              refine one_ (i := 8) (N := some 47) #[true, true, true, true, true, true, true, true, true, true, true, true, true, true, true, true, true, false, false, false, false, false] rfl rfl (one_of HT_.out (by kernel_rfl)) (by decide) (fun K hK => ?_)
              refine TC.appA (W := ((W.alloc (.cells #[.int .i64 x.1] 2)).alloc (.cells #[.int .i64 x.2] 2))) (p := x.1) (n := W.heap.size) HT.out HLA.out (by rfl) (.tmp 40) (.tmp 46) 33 (by rfl) Try.underlying33 info2 (by rfl) (by rfl) HLX.out ?_
              intro AA cA wA hT1 hL1
              have HT := Aside0.mk hT1
              have HLV := Aside0.mk (hL1 _ _ HLV.out)
              clear hT1 hL1
              refine hK.out _ _ (HSP.out _ HT.out.blk HT.out.bel) (fun hHeld => ?_)
              clear hK K
              refine norm_ (a' := ?_) ?_ ?_
              rotate_left
              · show Act.put _ (some 47) _ = _
                simp only [Act.put, List.setIfInBounds_toArray, List.set_cons_zero, List.set_cons_succ, i64_w, i32_w]
                rfl
              refine pure_ (i := 18) (N := some 57) (v := ?_) (a' := ?_) #[true, true, true, true, true, true, true, true, true, true, true, true, true, true, true, true, true, false, true, false, false, false] rfl rfl (any_of HT_.out (by kernel_rfl)) (fun _ _ _ h => h) (Or.inl ⟨by rfl, ?_⟩) ?_ ?_
              rotate_left
              · intro w'
                go_simp
                with_reducible rfl
              rotate_left
              · simp only [Act.put, List.setIfInBounds_toArray, List.set_cons_zero, List.set_cons_succ, i64_w, i32_w]
                rfl
              refine one_ (i := 17) (N := some 56) #[true, true, true, true, true, true, true, true, true, true, true, true, true, true, true, true, true, true, true, false, false, false] rfl rfl (one_of HT_.out (by kernel_rfl)) (by decide) (fun K hK => ?_)
              refine TC.appV (W := wA) (p := x.2) (n := (W.alloc (.cells #[.int .i64 x.1] 2)).heap.size) HT.out HLV.out (by rfl) (.tmp 49) (.tmp 55) 33 (by rfl) Try.underlying33 info2 (by rfl) (by rfl) HLY.out ?_
              intro AV cV wV hT1 hL1
              have HT := Aside0.mk hT1
              clear hT1 hL1
              refine hK.out _ _ (HSP.out _ HT.out.blk HT.out.bel) (fun hHeld => ?_)
              clear hK K
              refine norm_ (a' := ?_) ?_ ?_
              rotate_left
              · show Act.put _ (some 56) _ = _
                simp only [Act.put, List.setIfInBounds_toArray, List.set_cons_zero, List.set_cons_succ, i64_w, i32_w]
                rfl
              exact norm_ (by simp only [putAll, Act.put, List.setIfInBounds_toArray, List.set_cons_zero, List.set_cons_succ]) (hCont (W.heap.size, (W.alloc (.cells #[.int .i64 x.1] 2)).heap.size, AA, cA, AV, cV) _ HT.out)
          · skip
            refine event_step (v := .slice (some ⟨W.heap.size, 0, none⟩) 1 1) (w1 := W.alloc (.cells #[.int .i64 x.2] 2)) (by rfl) (by first | (go_simp; done) | (go_simp; rfl)) ?_
            have HLV := Aside0.mk (HT.out.lit x.2)
            have HT := Aside0.mk (HT.out.alloc (.cells #[.int .i64 x.2] 2))
            refine hK.out _ _ (HSP.out _ HT.out.blk HT.out.bel) (fun hHeld => ?_)
            clear hK K
            refine norm_ (a' := ?_) ?_ ?_
            rotate_left
            · show Act.put _ (some 55) _ = _
              simp only [Act.put, List.setIfInBounds_toArray, List.set_cons_zero, List.set_cons_succ, i64_w, i32_w]
              rfl
            refine one_ (i := 7) (N := some 46) #[true, true, true, true, true, true, true, true, false, true, true, true, true, true, true, true, true, false, false, false, false, false] rfl rfl (one_of HT_.out (by kernel_rfl)) (by decide) (fun K hK => ?_)
            refine event_step (v := .slice (some ⟨(W.alloc (.cells #[.int .i64 x.2] 2)).heap.size, 0, none⟩) 1 1) (w1 := (W.alloc (.cells #[.int .i64 x.2] 2)).alloc (.cells #[.int .i64 x.1] 2)) (by rfl) (by first | (go_simp; done) | (go_simp; rfl)) ?_
            have HLA := Aside0.mk (HT.out.lit x.1)
            have HLV := Aside0.mk (HLV.out.alloc (.cells #[.int .i64 x.1] 2))
            have HT := Aside0.mk (HT.out.alloc (.cells #[.int .i64 x.1] 2))
            refine hK.out _ _ (HSP.out _ HT.out.blk HT.out.bel) (fun hHeld => ?_)
            clear hK K
            refine norm_ (a' := ?_) ?_ ?_
            rotate_left
            · show Act.put _ (some 46) _ = _
              simp only [Act.put, List.setIfInBounds_toArray, List.set_cons_zero, List.set_cons_succ, i64_w, i32_w]
              rfl
            refine one_ (i := 8) (N := some 47) #[true, true, true, true, true, true, true, true, true, true, true, true, true, true, true, true, true, false, false, false, false, false] rfl rfl (one_of HT_.out (by kernel_rfl)) (by decide) (fun K hK => ?_)
            refine TC.appA (W := ((W.alloc (.cells #[.int .i64 x.2] 2)).alloc (.cells #[.int .i64 x.1] 2))) (p := x.1) (n := (W.alloc (.cells #[.int .i64 x.2] 2)).heap.size) HT.out HLA.out (by rfl) (.tmp 40) (.tmp 46) 33 (by rfl) Try.underlying33 info2 (by rfl) (by rfl) HLX.out ?_
            intro AA cA wA hT1 hL1
            have HT := Aside0.mk hT1
            have HLV := Aside0.mk (hL1 _ _ HLV.out)
            clear hT1 hL1
            refine hK.out _ _ (HSP.out _ HT.out.blk HT.out.bel) (fun hHeld => ?_)
            clear hK K
            refine norm_ (a' := ?_) ?_ ?_
            rotate_left
            · show Act.put _ (some 47) _ = _
              simp only [Act.put, List.setIfInBounds_toArray, List.set_cons_zero, List.set_cons_succ, i64_w, i32_w]
              rfl
            refine pure_ (i := 18) (N := some 57) (v := ?_) (a' := ?_) #[true, true, true, true, true, true, true, true, true, true, true, true, true, true, true, true, true, false, true, false, false, false] rfl rfl (any_of HT_.out (by kernel_rfl)) (fun _ _ _ h => h) (Or.inl ⟨by rfl, ?_⟩) ?_ ?_
            rotate_left
            · intro w'
              go_simp
              with_reducible rfl
            rotate_left
            · simp only [Act.put, List.setIfInBounds_toArray, List.set_cons_zero, List.set_cons_succ, i64_w, i32_w]
              rfl
            refine one_ (i := 17) (N := some 56) #[true, true, true, true, true, true, true, true, true, true, true, true, true, true, true, true, true, true, true, false, false, false] rfl rfl (one_of HT_.out (by kernel_rfl)) (by decide) (fun K hK => ?_)
            refine TC.appV (W := wA) (p := x.2) (n := W.heap.size) HT.out HLV.out (by rfl) (.tmp 49) (.tmp 55) 33 (by rfl) Try.underlying33 info2 (by rfl) (by rfl) HLY.out ?_
            intro AV cV wV hT1 hL1
            have HT := Aside0.mk hT1
            clear hT1 hL1
            refine hK.out _ _ (HSP.out _ HT.out.blk HT.out.bel) (fun hHeld => ?_)
            clear hK K
            refine norm_ (a' := ?_) ?_ ?_
            rotate_left
            · show Act.put _ (some 56) _ = _
              simp only [Act.put, List.setIfInBounds_toArray, List.set_cons_zero, List.set_cons_succ, i64_w, i32_w]
              rfl
            exact norm_ (by simp only [putAll, Act.put, List.setIfInBounds_toArray, List.set_cons_zero, List.set_cons_succ]) (hCont ((W.alloc (.cells #[.int .i64 x.2] 2)).heap.size, W.heap.size, AA, cA, AV, cV) _ HT.out)
        · skip
          rintro ⟨nA, nV, A1_, c1_, A2_, c2_⟩ w_ hT_
          have HT := Aside0.mk hT_
          clear hT_
          simp only [putAll, Act.put, List.setIfInBounds_toArray, List.set_cons_zero, List.set_cons_succ]
          -- 19: _ := store 33 t57 t47 : 0 
          refine last_ (i := 19) (N := none) #[true, true, true, true, true, true, true, true, true, true, true, true, true, true, true, true, true, true, true, true, false, false] rfl rfl (one_of HT_.out (by kernel_rfl)) (by decide) (fun K hK => ?_)
          have z0 := (blk_cell HT.out.blk 0).trans (rfl : _ = some (vA))
          have f0 := blk_frozen HT.out.blk 0
          refine skip_ (w1 := w_.setCell ⟨g, 0, none⟩ (.slice A1_ ((k1 acc).length + 1) c1_)) (by rfl) rfl (by first | (go_simp; done) | (go_simp; rfl)) ?_
          have HT := Aside0.mk (HT.out.set0 (.slice A1_ ((k1 acc).length + 1) c1_))
          refine hK.out _ _ ?_
          clear hK K z0 f0
          -- 20: t58 := fieldAddr 56 t7 1 : 0 
          refine pure_ (i := 20) (N := some 58) (v := ?_) (a' := ?_) #[true, true, true, true, true, true, true, true, true, true, true, true, true, true, true, true, true, true, true, true, true, false] rfl rfl (any_of HT_.out (by kernel_rfl)) (fun _ _ _ h => h) (Or.inl ⟨by rfl, ?_⟩) ?_ ?_
          rotate_left
          · intro w'
            go_simp
            with_reducible rfl
          rotate_left
          · simp only [Act.put, List.setIfInBounds_toArray, List.set_cons_zero, List.set_cons_succ, i64_w, i32_w]
            rfl
          -- 21: _ := store 33 t58 t56 : 0 
          refine last_ (i := 21) (N := none) #[true, true, true, true, true, true, true, true, true, true, true, true, true, true, true, true, true, true, true, true, true, true] rfl rfl (one_of HT_.out (by kernel_rfl)) (by decide) (fun K hK => ?_)
          have z0 := (blk_cell HT.out.blk 1).trans (rfl : _ = some (vV))
          have f0 := blk_frozen HT.out.blk 1
          refine skip_ (w1 := (w_.setCell ⟨g, 0, none⟩ (.slice A1_ ((k1 acc).length + 1) c1_)).setCell ⟨g, 1, none⟩ (.slice A2_ ((k2 acc).length + 1) c2_)) (by rfl) rfl (by first | (go_simp; done) | (go_simp; rfl)) ?_
          have HT := Aside0.mk (HT.out.set1 (.slice A2_ ((k2 acc).length + 1) c2_))
          refine hK.out _ _ ?_
          clear hK K z0 f0
          refine done_ (done_of HT_.out (by kernel_rfl)) ?_
          go_wp2
          go_roundg (l.length - (i + 1))
          case measure => have := hq.out; omega
          case rel => exact ⟨i + 1, acc ++ [x], d, _, _, by omega, ⟨rfl⟩, rfl, by go_num, HFS, ⟨by rw [k1_snoc, k2_snoc]; exact HT.out⟩⟩
    · have hkl : i = l.length := by omega
      subst hkl
      rw [List.take_length] at HFA
      have HADD := Aside0.mk (Ord.add_ins a v l [])
      rw [show l.foldl (addF a v) ([], false) = (acc, d) from HFA.out] at HADD
      clear q1 hlt hi_ hq HFA HLS B30 B31 B3
      cases d with
      | true =>
        have HINS := Aside0.mk (show ins a v l = acc from HADD.out.symm)
        clear HADD
        have B6z := Aside0.mk ((HT.out.bel.block _ (blk_lt B6.out)).trans B6.out)
        obtain ⟨B1_, d1_, hv1⟩ := Kd.R_slice HT.out.rA
        obtain ⟨B2_, d2_, hv2⟩ := Kd.R_slice HT.out.rV
        rw [k1_len] at hv1
        rw [k2_len] at hv2
        subst hv1; subst hv2
        have b1 := blk_set B6z.out 0 (.slice B1_ acc.length d1_)
        have b2 := blk_set b1 1 (.slice B2_ acc.length d2_)
        have x0 := (blk_cell HT.out.blk 0).trans (rfl : _ = some (Value.slice B1_ acc.length d1_))
        have x1 := (blk_cell HT.out.blk 1).trans (rfl : _ = some (Value.slice B2_ acc.length d2_))
        have y0 := (blk_cell B6z.out 0).trans (rfl : _ = some (Value.slice none 0 0))
        have y1 := (blk_cell b1 1).trans (rfl : _ = some (Value.slice none 0 0))
        have f0 := blk_frozen B6z.out 0
        have f1 := blk_frozen b1 1
        have r0 := (blk_cell b2 0).trans (rfl : _ = some (Value.slice B1_ acc.length d1_))
        have r1 := (blk_cell b2 1).trans (rfl : _ = some (Value.slice B2_ acc.length d2_))
        have HRA := Aside0.mk (Kd.R_set (Kd.R_set HT.out.rA B6z.out (by decide) 0 (.slice B1_ acc.length d1_)) b1 (by decide) 1 (.slice B2_ acc.length d2_))
        have HRV := Aside0.mk (Kd.R_set (Kd.R_set HT.out.rV B6z.out (by decide) 0 (.slice B1_ acc.length d1_)) b1 (by decide) 1 (.slice B2_ acc.length d2_))
        have HBF := Aside0.mk (((below_then HW3.out HW3.out.size HT.out.bel).setCell (p := ⟨w.heap.size + 1, 0, none⟩) (by simp) (.slice B1_ acc.length d1_)).setCell (p := ⟨w.heap.size + 1, 1, none⟩) (by simp) (.slice B2_ acc.length d2_))
        have HLL := Aside0.mk (show LR _ w.heap.size B1_ d1_ B2_ d2_ acc from ⟨Kd.R_mono (Kd.R_lower HRA.out HW3.out.size) (fun _ _ => trivial), Kd.R_mono (Kd.R_lower HRV.out HW3.out.size) (fun _ _ => trivial)⟩)
        clear HRA HRV b1 b2
        go_wp2
        refine bodyPost_ret (by simp [results, Try.results25, go_sem, r0, r1]; try rfl) rfl ?_
        exact ⟨B1_, d1_, B2_, d2_, by rw [HINS.out], by rw [HINS.out]; exact HLL.out, HBF.out⟩
      | false =>
        have HINS := Aside0.mk (show ins a v l = acc ++ [(a, v)] from HADD.out.symm)
        clear HADD
        go_wp2_with fail
        have HSP := Aside0.mk (fun (z : World) (h1 : z.heap[g]? = some (.cells #[vA, vV] 56 (0, 0))) (h2 : Below w3.heap.size w3 z) => (⟨(blk_cell h1 0).trans rfl, (blk_cell h1 1).trans rfl⟩ : z.cell? ⟨g, 0, none⟩ = some (vA) ∧ z.cell? ⟨g, 1, none⟩ = some (vV)))
        have K0 := HSP.out _ HT.out.drew.blk HT.out.drew.bel
        have HLX := Aside0.mk (show ((k1 acc).length + 1) * 8 ≤ 140737488355328 by rw [k1_len]; have := HAL.out; omega)
        have HLY := Aside0.mk (show ((k2 acc).length + 1) * 8 ≤ 140737488355328 by rw [k2_len]; have := HAL.out; omega)
        refine start_ (n := 14) (S := fun w' => w'.cell? ⟨g, 0, none⟩ = some (vA) ∧ w'.cell? ⟨g, 1, none⟩ = some (vV)) (ds := [11, 13]) #[false, false, false, false, false, false, false, false, false, false, false, false, false, false] (by kernel_rfl) rfl rfl K0 (fun hHeld => ?_)
        refine with_tabW stateAdd_any.tab11 stateAdd_any.bits11 (fun HT_ HW_ => ?_)
        have HT := Aside0.mk HT.out.drew
        clear K0
        generalize (wr).drew = W at HT hHeld ⊢
        -- 0: t62 := fieldAddr 56 t7 0 : 0 
        refine pure_ (i := 0) (N := some 62) (v := ?_) (a' := ?_) #[true, false, false, false, false, false, false, false, false, false, false, false, false, false] rfl rfl (any_of HT_.out (by kernel_rfl)) (fun _ _ _ h => h) (Or.inl ⟨by rfl, ?_⟩) ?_ ?_
        rotate_left
        · intro w'
          go_simp
          with_reducible rfl
        rotate_left
        · simp only [Act.put, List.setIfInBounds_toArray, List.set_cons_zero, List.set_cons_succ, i64_w, i32_w]
          rfl
        -- 2: t64 := move t1 : 2 
        refine pure_ (i := 2) (N := some 64) (v := ?_) (a' := ?_) #[true, false, true, false, false, false, false, false, false, false, false, false, false, false] rfl rfl (any_of HT_.out (by kernel_rfl)) (fun _ _ _ h => h) (Or.inl ⟨by rfl, ?_⟩) ?_ ?_
        rotate_left
        · intro w'
          go_simp
          with_reducible rfl
        rotate_left
        · simp only [Act.put, List.setIfInBounds_toArray, List.set_cons_zero, List.set_cons_succ, i64_w, i32_w]
          rfl
        -- 5: t67 := fieldAddr 56 t7 1 : 0 
        refine pure_ (i := 5) (N := some 67) (v := ?_) (a' := ?_) #[true, false, true, false, false, true, false, false, false, false, false, false, false, false] rfl rfl (any_of HT_.out (by kernel_rfl)) (fun _ _ _ h => h) (Or.inl ⟨by rfl, ?_⟩) ?_ ?_
        rotate_left
        · intro w'
          go_simp
          with_reducible rfl
        rotate_left
        · simp only [Act.put, List.setIfInBounds_toArray, List.set_cons_zero, List.set_cons_succ, i64_w, i32_w]
          rfl
        -- 7: t69 := move t2 : 2 
        refine pure_ (i := 7) (N := some 69) (v := ?_) (a' := ?_) #[true, false, true, false, false, true, false, true, false, false, false, false, false, false] rfl rfl (any_of HT_.out (by kernel_rfl)) (fun _ _ _ h => h) (Or.inl ⟨by rfl, ?_⟩) ?_ ?_
        rotate_left
        · intro w'
          go_simp
          with_reducible rfl
        rotate_left
        · simp only [Act.put, List.setIfInBounds_toArray, List.set_cons_zero, List.set_cons_succ, i64_w, i32_w]
          rfl
        -- 1: t63 := load 33 t62 : 33 
        refine take_ (i := 1) (N := some 63) (v := ?_) (a' := ?_) #[true, true, true, false, false, true, false, true, false, false, false, false, false, false] rfl rfl (take_ofW HT_.out HW_.out (by kernel_rfl)) (fun _ _ _ h => h) (Or.inl ⟨by rfl, ?_⟩) hHeld ?_ ?_
        rotate_left
        · rintro w' ⟨s0, s1⟩
          go_simp
          with_reducible rfl
        rotate_left
        · simp only [Act.put, List.setIfInBounds_toArray, List.set_cons_zero, List.set_cons_succ, i64_w, i32_w]
          rfl
        -- 6: t68 := load 33 t67 : 33 
        refine take_ (i := 6) (N := some 68) (v := ?_) (a' := ?_) #[true, true, true, false, false, true, true, true, false, false, false, false, false, false] rfl rfl (take_ofW HT_.out HW_.out (by kernel_rfl)) (fun _ _ _ h => h) (Or.inl ⟨by rfl, ?_⟩) hHeld ?_ ?_
        rotate_left
        · rintro w' ⟨s0, s1⟩
          go_simp
          with_reducible rfl
        rotate_left
        · simp only [Act.put, List.setIfInBounds_toArray, List.set_cons_zero, List.set_cons_succ, i64_w, i32_w]
          rfl
        refine join_ (σ := (Nat × Nat × Option Addr × Nat × Option Addr × Nat)) 3 #[true, true, true, true, true, true, true, true, true, true, true, false, false, false] (fun s_ => [(65, .slice (some ⟨s_.1, 0, none⟩) 1 1), (66, .slice s_.2.2.1 ((k1 acc).length + 1) s_.2.2.2.1), (70, .slice (some ⟨s_.2.1, 0, none⟩) 1 1), (71, .slice s_.2.2.2.2.1 ((k2 acc).length + 1) s_.2.2.2.2.2), (72, .pointer (some ⟨g, 0, none⟩))]) (fun s_ w' => TC w3 w3.heap.size g vA vV (.slice s_.2.2.1 ((k1 acc).length + 1) s_.2.2.2.1) (.slice s_.2.2.2.2.1 ((k2 acc).length + 1) s_.2.2.2.2.2) (k1 acc ++ [a]) (k2 acc ++ [v]) w') ?_ ?_
        rotate_left
        · intro hCont
          refine two_ (i := 3) (j := 8) (Ni := some 65) (Nj := some 70) #[true, true, true, true, false, true, true, true, false, false, false, false, false, false] #[true, true, true, false, false, true, true, true, true, false, false, false, false, false] rfl rfl rfl rfl (two_of HT_.out (by kernel_rfl)) (by decide) (by decide) (fun K hK => ?_) (fun K hK => ?_)
          · skip
            refine event_step (v := .slice (some ⟨W.heap.size, 0, none⟩) 1 1) (w1 := W.alloc (.cells #[.int .i64 a] 2)) (by rfl) (by first | (go_simp; done) | (go_simp; rfl)) ?_
            have HLA := Aside0.mk (HT.out.lit a)
            have HT := Aside0.mk (HT.out.alloc (.cells #[.int .i64 a] 2))
            refine hK.out _ _ (HSP.out _ HT.out.blk HT.out.bel) (fun hHeld => ?_)
            clear hK K
            refine norm_ (a' := ?_) ?_ ?_
            rotate_left
            · show Act.put _ (some 65) _ = _
              simp only [Act.put, List.setIfInBounds_toArray, List.set_cons_zero, List.set_cons_succ, i64_w, i32_w]
              rfl
            refine two_ (i := 4) (j := 8) (Ni := some 66) (Nj := some 70) #[true, true, true, true, true, true, true, true, false, false, false, false, false, false] #[true, true, true, true, false, true, true, true, true, false, false, false, false, false] rfl rfl rfl rfl (two_of HT_.out (by kernel_rfl)) (by decide) (by decide) (fun K hK => ?_) (fun K hK => ?_)
            · skip
              refine TC.appA (W := (W.alloc (.cells #[.int .i64 a] 2))) (p := a) (n := W.heap.size) HT.out HLA.out (by rfl) (.tmp 63) (.tmp 65) 33 (by rfl) Try.underlying33 info2 (by rfl) (by rfl) HLX.out ?_
              intro AA cA wA hT1 hL1
              have HT := Aside0.mk hT1
              clear hT1 hL1
              refine hK.out _ _ (HSP.out _ HT.out.blk HT.out.bel) (fun hHeld => ?_)
              clear hK K
              refine norm_ (a' := ?_) ?_ ?_
              rotate_left
              · show Act.put _ (some 66) _ = _
                simp only [Act.put, List.setIfInBounds_toArray, List.set_cons_zero, List.set_cons_succ, i64_w, i32_w]
                rfl
              refine pure_ (i := 10) (N := some 72) (v := ?_) (a' := ?_) #[true, true, true, true, true, true, true, true, false, false, true, false, false, false] rfl rfl (any_of HT_.out (by kernel_rfl)) (fun _ _ _ h => h) (Or.inl ⟨by rfl, ?_⟩) ?_ ?_
              rotate_left
              · intro w'
                go_simp
                with_reducible rfl
              rotate_left
              · simp only [Act.put, List.setIfInBounds_toArray, List.set_cons_zero, List.set_cons_succ, i64_w, i32_w]
                rfl
              refine one_ (i := 8) (N := some 70) #[true, true, true, true, true, true, true, true, true, false, true, false, false, false] rfl rfl (one_of HT_.out (by kernel_rfl)) (by decide) (fun K hK => ?_)
              refine event_step (v := .slice (some ⟨wA.heap.size, 0, none⟩) 1 1) (w1 := wA.alloc (.cells #[.int .i64 v] 2)) (by rfl) (by first | (go_simp; done) | (go_simp; rfl)) ?_
              have HLV := Aside0.mk (HT.out.lit v)
              have HT := Aside0.mk (HT.out.alloc (.cells #[.int .i64 v] 2))
              refine hK.out _ _ (HSP.out _ HT.out.blk HT.out.bel) (fun hHeld => ?_)
              clear hK K
              refine norm_ (a' := ?_) ?_ ?_
              rotate_left
              · show Act.put _ (some 70) _ = _
                simp only [Act.put, List.setIfInBounds_toArray, List.set_cons_zero, List.set_cons_succ, i64_w, i32_w]
                rfl
              refine one_ (i := 9) (N := some 71) #[true, true, true, true, true, true, true, true, true, true, true, false, false, false] rfl rfl (one_of HT_.out (by kernel_rfl)) (by decide) (fun K hK => ?_)
              refine TC.appV (W := (wA.alloc (.cells #[.int .i64 v] 2))) (p := v) (n := wA.heap.size) HT.out HLV.out (by rfl) (.tmp 68) (.tmp 70) 33 (by rfl) Try.underlying33 info2 (by rfl) (by rfl) HLY.out ?_
              intro AV cV wV hT1 hL1
              have HT := Aside0.mk hT1
              clear hT1 hL1
              refine hK.out _ _ (HSP.out _ HT.out.blk HT.out.bel) (fun hHeld => ?_)
              clear hK K
              refine norm_ (a' := ?_) ?_ ?_
              rotate_left
              · show Act.put _ (some 71) _ = _
                simp only [Act.put, List.setIfInBounds_toArray, List.set_cons_zero, List.set_cons_succ, i64_w, i32_w]
                rfl
              exact norm_ (by simp only [putAll, Act.put, List.setIfInBounds_toArray, List.set_cons_zero, List.set_cons_succ]) (hCont (W.heap.size, wA.heap.size, AA, cA, AV, cV) _ HT.out)
            · skip
              refine event_step (v := .slice (some ⟨(W.alloc (.cells #[.int .i64 a] 2)).heap.size, 0, none⟩) 1 1) (w1 := (W.alloc (.cells #[.int .i64 a] 2)).alloc (.cells #[.int .i64 v] 2)) (by rfl) (by first | (go_simp; done) | (go_simp; rfl)) ?_
              have HLV := Aside0.mk (HT.out.lit v)
              have HLA := Aside0.mk (HLA.out.alloc (.cells #[.int .i64 v] 2))
              have HT := Aside0.mk (HT.out.alloc (.cells #[.int .i64 v] 2))
              refine hK.out _ _ (HSP.out _ HT.out.blk HT.out.bel) (fun hHeld => ?_)
              clear hK K
              refine norm_ (a' := ?_) ?_ ?_
              rotate_left
              · show Act.put _ (some 70) _ = _
                simp only [Act.put, List.setIfInBounds_toArray, List.set_cons_zero, List.set_cons_succ, i64_w, i32_w]
                rfl
              refine one_ (i := 4) (N := some 66) #[true, true, true, true, true, true, true, true, true, false, false, false, false, false] rfl rfl (one_of HT_.out (by kernel_rfl)) (by decide) (fun K hK => ?_)
              refine TC.appA (W := ((W.alloc (.cells #[.int .i64 a] 2)).alloc (.cells #[.int .i64 v] 2))) (p := a) (n := W.heap.size) HT.out HLA.out (by rfl) (.tmp 63) (.tmp 65) 33 (by rfl) Try.underlying33 info2 (by rfl) (by rfl) HLX.out ?_
              intro AA cA wA hT1 hL1
              have HT := Aside0.mk hT1
              have HLV := Aside0.mk (hL1 _ _ HLV.out)
              clear hT1 hL1
              refine hK.out _ _ (HSP.out _ HT.out.blk HT.out.bel) (fun hHeld => ?_)
              clear hK K
              refine norm_ (a' := ?_) ?_ ?_
              rotate_left
              · show Act.put _ (some 66) _ = _
                simp only [Act.put, List.setIfInBounds_toArray, List.set_cons_zero, List.set_cons_succ, i64_w, i32_w]
                rfl
              refine pure_ (i := 10) (N := some 72) (v := ?_) (a' := ?_) #[true, true, true, true, true, true, true, true, true, false, true, false, false, false] rfl rfl (any_of HT_.out (by kernel_rfl)) (fun _ _ _ h => h) (Or.inl ⟨by rfl, ?_⟩) ?_ ?_
              rotate_left
              · intro w'
                go_simp
                with_reducible rfl
              rotate_left
              · simp only [Act.put, List.setIfInBounds_toArray, List.set_cons_zero, List.set_cons_succ, i64_w, i32_w]
                rfl
              refine one_ (i := 9) (N := some 71) #[true, true, true, true, true, true, true, true, true, true, true, false, false, false] rfl rfl (one_of HT_.out (by kernel_rfl)) (by decide) (fun K hK => ?_)
              refine TC.appV (W := wA) (p := v) (n := (W.alloc (.cells #[.int .i64 a] 2)).heap.size) HT.out HLV.out (by rfl) (.tmp 68) (.tmp 70) 33 (by rfl) Try.underlying33 info2 (by rfl) (by rfl) HLY.out ?_
              intro AV cV wV hT1 hL1
              have HT := Aside0.mk hT1
              clear hT1 hL1
              refine hK.out _ _ (HSP.out _ HT.out.blk HT.out.bel) (fun hHeld => ?_)
              clear hK K
              refine norm_ (a' := ?_) ?_ ?_
              rotate_left
              · show Act.put _ (some 71) _ = _
                simp only [Act.put, List.setIfInBounds_toArray, List.set_cons_zero, List.set_cons_succ, i64_w, i32_w]
                rfl
              exact norm_ (by simp only [putAll, Act.put, List.setIfInBounds_toArray, List.set_cons_zero, List.set_cons_succ]) (hCont (W.heap.size, (W.alloc (.cells #[.int .i64 a] 2)).heap.size, AA, cA, AV, cV) _ HT.out)
          · skip
            refine event_step (v := .slice (some ⟨W.heap.size, 0, none⟩) 1 1) (w1 := W.alloc (.cells #[.int .i64 v] 2)) (by rfl) (by first | (go_simp; done) | (go_simp; rfl)) ?_
            have HLV := Aside0.mk (HT.out.lit v)
            have HT := Aside0.mk (HT.out.alloc (.cells #[.int .i64 v] 2))
            refine hK.out _ _ (HSP.out _ HT.out.blk HT.out.bel) (fun hHeld => ?_)
            clear hK K
            refine norm_ (a' := ?_) ?_ ?_
            rotate_left
            · show Act.put _ (some 70) _ = _
              simp only [Act.put, List.setIfInBounds_toArray, List.set_cons_zero, List.set_cons_succ, i64_w, i32_w]
              rfl
            refine one_ (i := 3) (N := some 65) #[true, true, true, true, false, true, true, true, true, false, false, false, false, false] rfl rfl (one_of HT_.out (by kernel_rfl)) (by decide) (fun K hK => ?_)
            refine event_step (v := .slice (some ⟨(W.alloc (.cells #[.int .i64 v] 2)).heap.size, 0, none⟩) 1 1) (w1 := (W.alloc (.cells #[.int .i64 v] 2)).alloc (.cells #[.int .i64 a] 2)) (by rfl) (by first | (go_simp; done) | (go_simp; rfl)) ?_
            have HLA := Aside0.mk (HT.out.lit a)
            have HLV := Aside0.mk (HLV.out.alloc (.cells #[.int .i64 a] 2))
            have HT := Aside0.mk (HT.out.alloc (.cells #[.int .i64 a] 2))
            refine hK.out _ _ (HSP.out _ HT.out.blk HT.out.bel) (fun hHeld => ?_)
            clear hK K
            refine norm_ (a' := ?_) ?_ ?_
            rotate_left
            · show Act.put _ (some 65) _ = _
              simp only [Act.put, List.setIfInBounds_toArray, List.set_cons_zero, List.set_cons_succ, i64_w, i32_w]
              rfl
            refine one_ (i := 4) (N := some 66) #[true, true, true, true, true, true, true, true, true, false, false, false, false, false] rfl rfl (one_of HT_.out (by kernel_rfl)) (by decide) (fun K hK => ?_)
            refine TC.appA (W := ((W.alloc (.cells #[.int .i64 v] 2)).alloc (.cells #[.int .i64 a] 2))) (p := a) (n := (W.alloc (.cells #[.int .i64 v] 2)).heap.size) HT.out HLA.out (by rfl) (.tmp 63) (.tmp 65) 33 (by rfl) Try.underlying33 info2 (by rfl) (by rfl) HLX.out ?_
            intro AA cA wA hT1 hL1
            have HT := Aside0.mk hT1
            have HLV := Aside0.mk (hL1 _ _ HLV.out)
            clear hT1 hL1
            refine hK.out _ _ (HSP.out _ HT.out.blk HT.out.bel) (fun hHeld => ?_)
            clear hK K
            refine norm_ (a' := ?_) ?_ ?_
            rotate_left
            · show Act.put _ (some 66) _ = _
              simp only [Act.put, List.setIfInBounds_toArray, List.set_cons_zero, List.set_cons_succ, i64_w, i32_w]
              rfl
            refine pure_ (i := 10) (N := some 72) (v := ?_) (a' := ?_) #[true, true, true, true, true, true, true, true, true, false, true, false, false, false] rfl rfl (any_of HT_.out (by kernel_rfl)) (fun _ _ _ h => h) (Or.inl ⟨by rfl, ?_⟩) ?_ ?_
            rotate_left
            · intro w'
              go_simp
              with_reducible rfl
            rotate_left
            · simp only [Act.put, List.setIfInBounds_toArray, List.set_cons_zero, List.set_cons_succ, i64_w, i32_w]
              rfl
            refine one_ (i := 9) (N := some 71) #[true, true, true, true, true, true, true, true, true, true, true, false, false, false] rfl rfl (one_of HT_.out (by kernel_rfl)) (by decide) (fun K hK => ?_)
            refine TC.appV (W := wA) (p := v) (n := W.heap.size) HT.out HLV.out (by rfl) (.tmp 68) (.tmp 70) 33 (by rfl) Try.underlying33 info2 (by rfl) (by rfl) HLY.out ?_
            intro AV cV wV hT1 hL1
            have HT := Aside0.mk hT1
            clear hT1 hL1
            refine hK.out _ _ (HSP.out _ HT.out.blk HT.out.bel) (fun hHeld => ?_)
            clear hK K
            refine norm_ (a' := ?_) ?_ ?_
            rotate_left
            · show Act.put _ (some 71) _ = _
              simp only [Act.put, List.setIfInBounds_toArray, List.set_cons_zero, List.set_cons_succ, i64_w, i32_w]
              rfl
            exact norm_ (by simp only [putAll, Act.put, List.setIfInBounds_toArray, List.set_cons_zero, List.set_cons_succ]) (hCont ((W.alloc (.cells #[.int .i64 v] 2)).heap.size, W.heap.size, AA, cA, AV, cV) _ HT.out)
        · skip
          rintro ⟨nA, nV, A1_, c1_, A2_, c2_⟩ w_ hT_
          have HT := Aside0.mk hT_
          clear hT_
          simp only [putAll, Act.put, List.setIfInBounds_toArray, List.set_cons_zero, List.set_cons_succ]
          -- 11: _ := store 33 t72 t66 : 0 
          refine last_ (i := 11) (N := none) #[true, true, true, true, true, true, true, true, true, true, true, true, false, false] rfl rfl (one_of HT_.out (by kernel_rfl)) (by decide) (fun K hK => ?_)
          have z0 := (blk_cell HT.out.blk 0).trans (rfl : _ = some (vA))
          have f0 := blk_frozen HT.out.blk 0
          refine skip_ (w1 := w_.setCell ⟨g, 0, none⟩ (.slice A1_ ((k1 acc).length + 1) c1_)) (by rfl) rfl (by first | (go_simp; done) | (go_simp; rfl)) ?_
          have HT := Aside0.mk (HT.out.set0 (.slice A1_ ((k1 acc).length + 1) c1_))
          refine hK.out _ _ ?_
          clear hK K z0 f0
          -- 12: t73 := fieldAddr 56 t7 1 : 0 
          refine pure_ (i := 12) (N := some 73) (v := ?_) (a' := ?_) #[true, true, true, true, true, true, true, true, true, true, true, true, true, false] rfl rfl (any_of HT_.out (by kernel_rfl)) (fun _ _ _ h => h) (Or.inl ⟨by rfl, ?_⟩) ?_ ?_
          rotate_left
          · intro w'
            go_simp
            with_reducible rfl
          rotate_left
          · simp only [Act.put, List.setIfInBounds_toArray, List.set_cons_zero, List.set_cons_succ, i64_w, i32_w]
            rfl
          -- 13: _ := store 33 t73 t71 : 0 
          refine last_ (i := 13) (N := none) #[true, true, true, true, true, true, true, true, true, true, true, true, true, true] rfl rfl (one_of HT_.out (by kernel_rfl)) (by decide) (fun K hK => ?_)
          have z0 := (blk_cell HT.out.blk 1).trans (rfl : _ = some (vV))
          have f0 := blk_frozen HT.out.blk 1
          refine skip_ (w1 := (w_.setCell ⟨g, 0, none⟩ (.slice A1_ ((k1 acc).length + 1) c1_)).setCell ⟨g, 1, none⟩ (.slice A2_ ((k2 acc).length + 1) c2_)) (by rfl) rfl (by first | (go_simp; done) | (go_simp; rfl)) ?_
          have HT := Aside0.mk (HT.out.set1 (.slice A2_ ((k2 acc).length + 1) c2_))
          refine hK.out _ _ ?_
          clear hK K z0 f0
          refine done_ (done_of HT_.out (by kernel_rfl)) ?_
          have HT := Aside0.mk (show TC w3 w3.heap.size g (.slice A1_ ((k1 acc).length + 1) c1_) (.slice A2_ ((k2 acc).length + 1) c2_) (.slice A1_ ((k1 acc).length + 1) c1_) (.slice A2_ ((k2 acc).length + 1) c2_) (k1 (acc ++ [(a, v)])) (k2 (acc ++ [(a, v)])) ((w_.setCell ⟨g, 0, none⟩ (.slice A1_ ((k1 acc).length + 1) c1_)).setCell ⟨g, 1, none⟩ (.slice A2_ ((k2 acc).length + 1) c2_)) by rw [k1_snoc, k2_snoc]; exact HT.out)
          clear HSP HLX HLY hHeld
          generalize (w_.setCell ⟨g, 0, none⟩ (.slice A1_ ((k1 acc).length + 1) c1_)).setCell ⟨g, 1, none⟩ (.slice A2_ ((k2 acc).length + 1) c2_) = w9 at HT ⊢
          generalize Value.slice A1_ ((k1 acc).length + 1) c1_ = vA at HT ⊢
          generalize Value.slice A2_ ((k2 acc).length + 1) c2_ = vV at HT ⊢
          generalize acc ++ [(a, v)] = acc at HT HINS ⊢
          have B6z := Aside0.mk ((HT.out.bel.block _ (blk_lt B6.out)).trans B6.out)
          obtain ⟨B1_, d1_, hv1⟩ := Kd.R_slice HT.out.rA
          obtain ⟨B2_, d2_, hv2⟩ := Kd.R_slice HT.out.rV
          rw [k1_len] at hv1
          rw [k2_len] at hv2
          subst hv1; subst hv2
          have b1 := blk_set B6z.out 0 (.slice B1_ acc.length d1_)
          have b2 := blk_set b1 1 (.slice B2_ acc.length d2_)
          have x0 := (blk_cell HT.out.blk 0).trans (rfl : _ = some (Value.slice B1_ acc.length d1_))
          have x1 := (blk_cell HT.out.blk 1).trans (rfl : _ = some (Value.slice B2_ acc.length d2_))
          have y0 := (blk_cell B6z.out 0).trans (rfl : _ = some (Value.slice none 0 0))
          have y1 := (blk_cell b1 1).trans (rfl : _ = some (Value.slice none 0 0))
          have f0 := blk_frozen B6z.out 0
          have f1 := blk_frozen b1 1
          have r0 := (blk_cell b2 0).trans (rfl : _ = some (Value.slice B1_ acc.length d1_))
          have r1 := (blk_cell b2 1).trans (rfl : _ = some (Value.slice B2_ acc.length d2_))
          have HRA := Aside0.mk (Kd.R_set (Kd.R_set HT.out.rA B6z.out (by decide) 0 (.slice B1_ acc.length d1_)) b1 (by decide) 1 (.slice B2_ acc.length d2_))
          have HRV := Aside0.mk (Kd.R_set (Kd.R_set HT.out.rV B6z.out (by decide) 0 (.slice B1_ acc.length d1_)) b1 (by decide) 1 (.slice B2_ acc.length d2_))
          have HBF := Aside0.mk (((below_then HW3.out HW3.out.size HT.out.bel).setCell (p := ⟨w.heap.size + 1, 0, none⟩) (by simp) (.slice B1_ acc.length d1_)).setCell (p := ⟨w.heap.size + 1, 1, none⟩) (by simp) (.slice B2_ acc.length d2_))
          have HLL := Aside0.mk (show LR _ w.heap.size B1_ d1_ B2_ d2_ acc from ⟨Kd.R_mono (Kd.R_lower HRA.out HW3.out.size) (fun _ _ => trivial), Kd.R_mono (Kd.R_lower HRV.out HW3.out.size) (fun _ _ => trivial)⟩)
          clear HRA HRV b1 b2
          go_wp2
          refine bodyPost_ret (by simp [results, Try.results25, go_sem, r0, r1]; try rfl) rfl ?_
          exact ⟨B1_, d1_, B2_, d2_, by rw [HINS.out], by rw [HINS.out]; exact HLL.out, HBF.out⟩
end Go.Proofs.Ytoigekmdicepnaa
