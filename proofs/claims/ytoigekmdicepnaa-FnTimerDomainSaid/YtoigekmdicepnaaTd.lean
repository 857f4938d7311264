/- Contracts of a timer's calls Set, Clear, ClearTag. -/
import Derived.Test.YtoigekmdicepnaaTc
set_option linter.unusedVariables false
set_option linter.unusedSimpArgs false
namespace Go.Proofs.Ytoigekmdicepnaa
open Go.RowKit Go.Proofs.YtoigekmdicepnaaW.PrintWords Go.Proofs.YtoigekmdicepnaaW.PrintLast Go.Proofs.YtoigekmdicepnaaW.PrintMore

def ptSet_any.T7 : Bool × List (List Nat × List Nat) := (true, [([], []), ([0], [0]), ([], []), ([2], [2]), ([], []), ([4], [4]), ([], []), ([6, 5], [6]), ([1, 3, 5, 7], [1, 3, 5, 7]), ([], []), ([9, 8, 7, 0, 1, 2, 3, 4, 5, 6, 7, 8, 9], [8, 9])])
def ptSet_any.B7 : List Nat := [0, 1, 0, 4, 0, 16, 0, 112, 255, 0, 1023]
theorem ptSet_any.tab7 : rtab .any (opsOf Try.f90 7) = ptSet_any.T7 := by kernel_rfl
theorem ptSet_any.bits7 : waitsOk ptSet_any.T7.2 ptSet_any.B7 = true := by kernel_rfl
set_option maxRecDepth 100000 in
set_option maxHeartbeats 4000000 in
theorem ptSet_any (fam : ByteArray) (ft : Int) (A0 : Option Addr) (c0 : Nat) (os : List Op3) (g base : Nat) (xs : List TM) (w0 w : World) (hC : Kd.C kOp w A0 os.length os) (hok : ∀ k, k < os.length → (rdOp os k).ok w) (hn : os.length ≤ 2) (hG : GV w g base xs) (hB : Below base w0 w) (hl : xs.length ≤ 1000000000) :
    Calls Try.prog 90 #[.agg #[.string fam], .iface 110 (.pointer (some ⟨g, 0, none⟩)), .int .i64 ft, .slice A0 os.length c0] w fun e w' => e = .returned (.tuple #[]) ∧ GV w' g base (xs ++ [setTM fam ft os]) ∧ Below base w0 w' := by
  have HN := Aside0.mk (show os.length ≤ 9223372036854775807 by omega)
  have HBX := Aside0.mk (blk_alloc (heap_alloc_new w (.cells #[.string fam] 117)) (.cells #[.string ByteArray.empty, .bool false, .int .i64 0] 239))
  have HTC := Aside0.mk (show ((w.alloc (.cells #[.string fam] 117)).alloc (.cells #[.string ByteArray.empty, .bool false, .int .i64 0] 239)).heap[w.heap.size + 1]? = some (.cells (appAll (os.take 0)).cells 239 (0, 0)) by have h := heap_alloc_new (w.alloc (.cells #[.string fam] 117)) (.cells #[.string ByteArray.empty, .bool false, .int .i64 0] 239); rw [World.size_alloc] at h; rw [List.take_zero]; exact h)
  have HBW := Aside0.mk (below_alloc (below_alloc (Below.refl w.heap.size w) (.cells #[.string fam] 117)) (.cells #[.string ByteArray.empty, .bool false, .int .i64 0] 239))
  have HC := Aside0.mk hC
  have HOK := Aside0.mk hok
  have HG := Aside0.mk hG
  have HB := Aside0.mk hB
  have HL := Aside0.mk hl
  have HBS := Aside0.mk (show base ≤ w.heap.size by obtain ⟨v, h1, _, h3⟩ := hG; have := blk_lt h1; omega)
  clear hC hok hG hB hl hn
  go_enter Try.func90, Try.ntmps90
  go_wp2
  go_loopg [10, 15] os.length (fun kq v10 v15 w' => ∃ k : Nat, k ≤ os.length ∧ Aside0 (kq = os.length - k) ∧ v15 = .int .i64 k ∧ Aside0 (w'.heap[w.heap.size + 1]? = some (.cells (appAll (os.take k)).cells 239 (0, 0))) ∧ Aside0 (w'.heap[w.heap.size]? = some (.cells #[.string fam] 117 (0, 0))) ∧ Aside0 (Below w.heap.size w w'))
  case atStart => exact ⟨0, Nat.zero_le _, ⟨by simp⟩, rfl, HTC, HBX, HBW⟩
  case round =>
    clear HTC HBX HBW
    obtain ⟨k, hk, hq, rfl, HTC, HBX, HBW⟩ := hrel
    by_cases hlt : k < os.length
    · obtain ⟨ad, ea, hx0⟩ := atOp HC.out k hlt
      subst ea
      replace hx0 := (HBW.out.cell (World.block_lt_of_cell? w _ hx0)).trans hx0
      have HOW := Aside0.mk (HOK.out k hlt)
      have HO := Aside0.mk (Op3.ok_below (HOK.out k hlt) HBW.out)
      have HS := Aside0.mk (appAll_succ os k hlt)
      have q1 : (os.length : Int) ≤ 9223372036854775807 := by have := HN.out; omega
      generalize hx : rdOp os k = x at hx0 HO HS HOW
      clear hx
      cases x with
      | tag b s =>
        rw [show (Op3.tag b s).val = .func (.func 125) #[] #[.pointer (some ⟨b, 0, none⟩)] from rfl] at hx0
        go_wp2_with (go_at_call 125; refine (tag_any _ b s (appAll (os.take k)) _ HTC.out HO.out).mono ?_; rintro e w1 ⟨rfl, h1, h3, h2⟩; have H1 := Aside0.mk h1; have H2 := Aside0.mk (h2 w HBW.out (by omega)); have H3 := Aside0.mk ((h3 w.heap.size (by omega)).trans HBX.out); clear h1 h2 h3)
        go_roundg (os.length - (k + 1))
        case measure => have := hq.out; omega
        case rel => exact ⟨k + 1, by omega, ⟨rfl⟩, by go_num, ⟨by rw [HS.out]; exact H1.out⟩, H3, H2⟩
      | hold b t =>
        rw [show (Op3.hold b t).val = .func (.func 126) #[] #[.pointer (some ⟨b, 0, none⟩)] from rfl] at hx0
        have HNE := Aside0.mk (show b ≠ w.heap.size + 1 by have := World.block_lt_of_cell? w _ (show w.cell? ⟨b, 0, none⟩ = some (.int .i64 t) from HOW.out); simp only at this; omega)
        go_wp2_with (go_at_call 126; refine (hold_any _ b t (appAll (os.take k)) _ HTC.out HO.out HNE.out).mono ?_; rintro e w1 ⟨rfl, h1, h3, h2⟩; have H1 := Aside0.mk h1; have H2 := Aside0.mk (h2 w HBW.out (by omega)); have H3 := Aside0.mk ((h3 w.heap.size (by omega)).trans HBX.out); clear h1 h2 h3)
        go_roundg (os.length - (k + 1))
        case measure => have := hq.out; omega
        case rel => exact ⟨k + 1, by omega, ⟨rfl⟩, by go_num, ⟨by rw [HS.out]; exact H1.out⟩, H3, H2⟩
      | no =>
        rw [show (Op3.no).val = .func (.func 127) #[] #[] from rfl] at hx0
        go_wp2_with (go_at_call 127; refine (no_any _ (appAll (os.take k)) _ HTC.out).mono ?_; rintro e w1 ⟨rfl, h1, h3, h2⟩; have H1 := Aside0.mk h1; have H2 := Aside0.mk (h2 w HBW.out (by omega)); have H3 := Aside0.mk ((h3 w.heap.size (by omega)).trans HBX.out); clear h1 h2 h3)
        go_roundg (os.length - (k + 1))
        case measure => have := hq.out; omega
        case rel => exact ⟨k + 1, by omega, ⟨rfl⟩, by go_num, ⟨by rw [HS.out]; exact H1.out⟩, H3, H2⟩
    · have hkl : k = os.length := by omega
      subst hkl
      rw [List.take_length] at HTC
      have HG1 := Aside0.mk (HG.out.below HBW.out)
      clear HOK HC
      obtain ⟨⟨tg, hb, ho⟩, hX⟩ : ∃ x, appAll os = x := ⟨_, rfl⟩
      have HX := Aside0.mk hX
      rw [hX] at HTC
      clear hX
      have KS := Aside0.mk (fun (z : World) (h1 : z.heap[w.heap.size]? = some (.cells #[.string fam] 117 (0, 0))) (h2 : z.heap[w.heap.size + 1]? = some (.cells #[.string tg, .bool hb, .int .i64 ho] 239 (0, 0))) => (⟨(blk_cell h1 0).trans rfl, (blk_cell h2 0).trans rfl⟩ : z.cell? ⟨w.heap.size, 0, none⟩ = some (.string fam) ∧ z.cell? ⟨w.heap.size + 1, 0, none⟩ = some (.string tg)))
      replace HBX := Aside0.mk (blk_drew HBX.out)
      replace HTC := Aside0.mk (blk_drew HTC.out)
      have HG1 := Aside0.mk (HG1.out.below (below_drew (Below.refl _ _)))
      have HBW := Aside0.mk (below_drew HBW.out)
      have K0 := KS.out _ HBX.out HTC.out
      go_wp2_with fail
      refine start_ (n := 11) (S := fun w' => w'.cell? ⟨w.heap.size, 0, none⟩ = some (.string fam) ∧ w'.cell? ⟨w.heap.size + 1, 0, none⟩ = some (.string tg)) (ds := [10]) #[false, false, false, false, false, false, false, false, false, false, false] (by kernel_rfl) rfl rfl K0 (fun hHeld => ?_)
      refine with_tabW ptSet_any.tab7 ptSet_any.bits7 (fun HT_ HW_ => ?_)
      generalize wr.drew = W at *
      -- 0: t22 := fieldAddr 117 t4 0 : 0 
      refine pure_ (i := 0) (N := some 22) (v := ?_) (a' := ?_) #[true, false, false, false, false, false, false, false, false, false, false] rfl rfl (any_of HT_.out (by kernel_rfl)) (fun _ _ _ h => h) (Or.inl ⟨by rfl, ?_⟩) ?_ ?_
      rotate_left
      · intro w'
        go_simp
        with_reducible rfl
      rotate_left
      · simp only [Act.put, List.setIfInBounds_toArray, List.set_cons_zero, List.set_cons_succ, i64_w, i32_w]
        rfl
      -- 2: t24 := fieldAddr 239 t8 0 : 0 
      refine pure_ (i := 2) (N := some 24) (v := ?_) (a' := ?_) #[true, false, true, false, false, false, false, false, false, false, false] rfl rfl (any_of HT_.out (by kernel_rfl)) (fun _ _ _ h => h) (Or.inl ⟨by rfl, ?_⟩) ?_ ?_
      rotate_left
      · intro w'
        go_simp
        with_reducible rfl
      rotate_left
      · simp only [Act.put, List.setIfInBounds_toArray, List.set_cons_zero, List.set_cons_succ, i64_w, i32_w]
        rfl
      -- 4: t26 := move t2 : 113 
      refine pure_ (i := 4) (N := some 26) (v := ?_) (a' := ?_) #[true, false, true, false, true, false, false, false, false, false, false] rfl rfl (any_of HT_.out (by kernel_rfl)) (fun _ _ _ h => h) (Or.inl ⟨by rfl, ?_⟩) ?_ ?_
      rotate_left
      · intro w'
        go_simp
        with_reducible rfl
      rotate_left
      · simp only [Act.put, List.setIfInBounds_toArray, List.set_cons_zero, List.set_cons_succ, i64_w, i32_w]
        rfl
      -- 6: t28 := move t2 : 113 
      refine pure_ (i := 6) (N := some 28) (v := ?_) (a' := ?_) #[true, false, true, false, true, false, true, false, false, false, false] rfl rfl (any_of HT_.out (by kernel_rfl)) (fun _ _ _ h => h) (Or.inl ⟨by rfl, ?_⟩) ?_ ?_
      rotate_left
      · intro w'
        go_simp
        with_reducible rfl
      rotate_left
      · simp only [Act.put, List.setIfInBounds_toArray, List.set_cons_zero, List.set_cons_succ, i64_w, i32_w]
        rfl
      -- 1: t23 := load 9 t22 : 9 
      refine take_ (i := 1) (N := some 23) (v := ?_) (a' := ?_) #[true, true, true, false, true, false, true, false, false, false, false] rfl rfl (take_ofW HT_.out HW_.out (by kernel_rfl)) (fun _ _ _ h => h) (Or.inl ⟨by rfl, ?_⟩) hHeld ?_ ?_
      rotate_left
      · rintro w' ⟨s0, s1⟩
        go_simp
        with_reducible rfl
      rotate_left
      · simp only [Act.put, List.setIfInBounds_toArray, List.set_cons_zero, List.set_cons_succ, i64_w, i32_w]
        rfl
      -- 3: t25 := load 9 t24 : 9 
      refine take_ (i := 3) (N := some 25) (v := ?_) (a' := ?_) #[true, true, true, true, true, false, true, false, false, false, false] rfl rfl (take_ofW HT_.out HW_.out (by kernel_rfl)) (fun _ _ _ h => h) (Or.inl ⟨by rfl, ?_⟩) hHeld ?_ ?_
      rotate_left
      · rintro w' ⟨s0, s1⟩
        go_simp
        with_reducible rfl
      rotate_left
      · simp only [Act.put, List.setIfInBounds_toArray, List.set_cons_zero, List.set_cons_succ, i64_w, i32_w]
        rfl
      refine join_ (σ := Unit) 1 #[true, true, true, true, true, true, true, true, true, true, false] (fun _ => [(27, .int .i64 (cutT ft)), (29, .int .i64 (cutT ft)), (30, .agg #[.string fam, .string tg, .bool false, .int .i64 (cutT ft), .int .i64 (cutT ft)]), (11, .pointer (some ⟨W.heap.size, 0, none⟩))]) (fun _ w' => w' = W.alloc (.cells #[.string ByteArray.empty, .string ByteArray.empty, .bool false, .int .i64 0, .int .i64 0] 179)) ?_ ?_
      rotate_left
      · intro hCont
        refine two_ (i := 5) (j := 9) (Ni := some 27) (Nj := some 11) #[true, true, true, true, true, true, true, false, false, false, false] #[true, true, true, true, true, false, true, false, false, true, false] rfl rfl rfl rfl (two_of HT_.out (by kernel_rfl)) (by decide) (by decide) (fun K hK => ?_) (fun K hK => ?_)
        · skip
          refine goes_ Try.func124 (by kernel_rfl) rfl #[.int .i64 ft] (by rfl) rfl rfl (by (try simp only [List.map_toArray, List.map_cons, List.map_nil]); first | done | rfl) ?_
          refine (norm_any _ _).mono ?_
          rintro e_ w5 ⟨rfl, rfl⟩
          refine ⟨_, rfl, ?_⟩
          refine hK.out _ _ hHeld (fun hHeld => ?_)
          clear hK K
          refine norm_ (a' := ?_) ?_ ?_
          rotate_left
          · show Act.put _ (some 27) _ = _
            simp only [Act.put, List.setIfInBounds_toArray, List.set_cons_zero, List.set_cons_succ, i64_w, i32_w]
            rfl
          refine two_ (i := 7) (j := 9) (Ni := some 29) (Nj := some 11) #[true, true, true, true, true, true, true, true, false, false, false] #[true, true, true, true, true, true, true, false, false, true, false] rfl rfl rfl rfl (two_of HT_.out (by kernel_rfl)) (by decide) (by decide) (fun K hK => ?_) (fun K hK => ?_)
          · skip
            refine goes_ Try.func124 (by kernel_rfl) rfl #[.int .i64 ft] (by rfl) rfl rfl (by (try simp only [List.map_toArray, List.map_cons, List.map_nil]); first | done | rfl) ?_
            refine (norm_any _ _).mono ?_
            rintro e_ w5 ⟨rfl, rfl⟩
            refine ⟨_, rfl, ?_⟩
            refine hK.out _ _ hHeld (fun hHeld => ?_)
            clear hK K
            refine norm_ (a' := ?_) ?_ ?_
            rotate_left
            · show Act.put _ (some 29) _ = _
              simp only [Act.put, List.setIfInBounds_toArray, List.set_cons_zero, List.set_cons_succ, i64_w, i32_w]
              rfl
            refine pure_ (i := 8) (N := some 30) (v := ?_) (a' := ?_) #[true, true, true, true, true, true, true, true, true, false, false] rfl rfl (any_of HT_.out (by kernel_rfl)) (fun _ _ _ h => h) (Or.inl ⟨by rfl, ?_⟩) ?_ ?_
            rotate_left
            · intro w'
              go_simp
              with_reducible rfl
            rotate_left
            · simp only [Act.put, List.setIfInBounds_toArray, List.set_cons_zero, List.set_cons_succ, i64_w, i32_w]
              rfl
            refine one_ (i := 9) (N := some 11) #[true, true, true, true, true, true, true, true, true, true, false] rfl rfl (one_of HT_.out (by kernel_rfl)) (by decide) (fun K hK => ?_)
            refine event_step (v := .pointer (some ⟨W.heap.size, 0, none⟩)) (w1 := W.alloc (.cells #[.string ByteArray.empty, .string ByteArray.empty, .bool false, .int .i64 0, .int .i64 0] 179)) (by rfl) (by first | (go_simp; done) | (go_simp; rfl)) ?_
            refine hK.out _ _ (KS.out _ (blk_alloc HBX.out _) (blk_alloc HTC.out _)) (fun hHeld => ?_)
            clear hK K
            refine norm_ (a' := ?_) ?_ ?_
            rotate_left
            · show Act.put _ (some 11) _ = _
              simp only [Act.put, List.setIfInBounds_toArray, List.set_cons_zero, List.set_cons_succ, i64_w, i32_w]
              rfl
            exact norm_ (by simp only [putAll, Act.put, List.setIfInBounds_toArray, List.set_cons_zero, List.set_cons_succ]) (hCont () _ rfl)
          · skip
            refine event_step (v := .pointer (some ⟨W.heap.size, 0, none⟩)) (w1 := W.alloc (.cells #[.string ByteArray.empty, .string ByteArray.empty, .bool false, .int .i64 0, .int .i64 0] 179)) (by rfl) (by first | (go_simp; done) | (go_simp; rfl)) ?_
            refine hK.out _ _ (KS.out _ (blk_alloc HBX.out _) (blk_alloc HTC.out _)) (fun hHeld => ?_)
            clear hK K
            refine norm_ (a' := ?_) ?_ ?_
            rotate_left
            · show Act.put _ (some 11) _ = _
              simp only [Act.put, List.setIfInBounds_toArray, List.set_cons_zero, List.set_cons_succ, i64_w, i32_w]
              rfl
            refine one_ (i := 7) (N := some 29) #[true, true, true, true, true, true, true, true, false, true, false] rfl rfl (one_of HT_.out (by kernel_rfl)) (by decide) (fun K hK => ?_)
            refine goes_ Try.func124 (by kernel_rfl) rfl #[.int .i64 ft] (by rfl) rfl rfl (by (try simp only [List.map_toArray, List.map_cons, List.map_nil]); first | done | rfl) ?_
            refine (norm_any _ _).mono ?_
            rintro e_ w5 ⟨rfl, rfl⟩
            refine ⟨_, rfl, ?_⟩
            refine hK.out _ _ hHeld (fun hHeld => ?_)
            clear hK K
            refine norm_ (a' := ?_) ?_ ?_
            rotate_left
            · show Act.put _ (some 29) _ = _
              simp only [Act.put, List.setIfInBounds_toArray, List.set_cons_zero, List.set_cons_succ, i64_w, i32_w]
              rfl
            refine pure_ (i := 8) (N := some 30) (v := ?_) (a' := ?_) #[true, true, true, true, true, true, true, true, true, true, false] rfl rfl (any_of HT_.out (by kernel_rfl)) (fun _ _ _ h => h) (Or.inl ⟨by rfl, ?_⟩) ?_ ?_
            rotate_left
            · intro w'
              go_simp
              with_reducible rfl
            rotate_left
            · simp only [Act.put, List.setIfInBounds_toArray, List.set_cons_zero, List.set_cons_succ, i64_w, i32_w]
              rfl
            exact norm_ (by simp only [putAll, Act.put, List.setIfInBounds_toArray, List.set_cons_zero, List.set_cons_succ]) (hCont () _ rfl)
        · skip
          refine event_step (v := .pointer (some ⟨W.heap.size, 0, none⟩)) (w1 := W.alloc (.cells #[.string ByteArray.empty, .string ByteArray.empty, .bool false, .int .i64 0, .int .i64 0] 179)) (by rfl) (by first | (go_simp; done) | (go_simp; rfl)) ?_
          refine hK.out _ _ (KS.out _ (blk_alloc HBX.out _) (blk_alloc HTC.out _)) (fun hHeld => ?_)
          clear hK K
          refine norm_ (a' := ?_) ?_ ?_
          rotate_left
          · show Act.put _ (some 11) _ = _
            simp only [Act.put, List.setIfInBounds_toArray, List.set_cons_zero, List.set_cons_succ, i64_w, i32_w]
            rfl
          refine one_ (i := 5) (N := some 27) #[true, true, true, true, true, true, true, false, false, true, false] rfl rfl (one_of HT_.out (by kernel_rfl)) (by decide) (fun K hK => ?_)
          refine goes_ Try.func124 (by kernel_rfl) rfl #[.int .i64 ft] (by rfl) rfl rfl (by (try simp only [List.map_toArray, List.map_cons, List.map_nil]); first | done | rfl) ?_
          refine (norm_any _ _).mono ?_
          rintro e_ w5 ⟨rfl, rfl⟩
          refine ⟨_, rfl, ?_⟩
          refine hK.out _ _ hHeld (fun hHeld => ?_)
          clear hK K
          refine norm_ (a' := ?_) ?_ ?_
          rotate_left
          · show Act.put _ (some 27) _ = _
            simp only [Act.put, List.setIfInBounds_toArray, List.set_cons_zero, List.set_cons_succ, i64_w, i32_w]
            rfl
          refine one_ (i := 7) (N := some 29) #[true, true, true, true, true, true, true, true, false, true, false] rfl rfl (one_of HT_.out (by kernel_rfl)) (by decide) (fun K hK => ?_)
          refine goes_ Try.func124 (by kernel_rfl) rfl #[.int .i64 ft] (by rfl) rfl rfl (by (try simp only [List.map_toArray, List.map_cons, List.map_nil]); first | done | rfl) ?_
          refine (norm_any _ _).mono ?_
          rintro e_ w5 ⟨rfl, rfl⟩
          refine ⟨_, rfl, ?_⟩
          refine hK.out _ _ hHeld (fun hHeld => ?_)
          clear hK K
          refine norm_ (a' := ?_) ?_ ?_
          rotate_left
          · show Act.put _ (some 29) _ = _
            simp only [Act.put, List.setIfInBounds_toArray, List.set_cons_zero, List.set_cons_succ, i64_w, i32_w]
            rfl
          refine pure_ (i := 8) (N := some 30) (v := ?_) (a' := ?_) #[true, true, true, true, true, true, true, true, true, true, false] rfl rfl (any_of HT_.out (by kernel_rfl)) (fun _ _ _ h => h) (Or.inl ⟨by rfl, ?_⟩) ?_ ?_
          rotate_left
          · intro w'
            go_simp
            with_reducible rfl
          rotate_left
          · simp only [Act.put, List.setIfInBounds_toArray, List.set_cons_zero, List.set_cons_succ, i64_w, i32_w]
            rfl
          exact norm_ (by simp only [putAll, Act.put, List.setIfInBounds_toArray, List.set_cons_zero, List.set_cons_succ]) (hCont () _ rfl)
      · skip
        rintro _ w_ rfl
        simp only [putAll, Act.put, List.setIfInBounds_toArray, List.set_cons_zero, List.set_cons_succ]
        -- 10: _ := store 179 t11 t30 : 0 
        refine last_ (i := 10) (N := none) #[true, true, true, true, true, true, true, true, true, true, true] rfl rfl (one_of HT_.out (by kernel_rfl)) (by decide) (fun K hK => ?_)
        refine skip_ (w1 := ?_) (by rfl) rfl ?_ ?_
        rotate_left
        · go_simp
          rfl
        refine hK.out _ _ ?_
        clear hK K
        refine done_ (done_of HT_.out (by kernel_rfl)) ?_
        cases hb
        · have y1 := fun o => (blk_cell (blk_alloc HTC.out o) 1).trans (rfl : _ = some (Value.bool false))
          have y2 := fun o => (blk_cell (blk_alloc HTC.out o) 2).trans (rfl : _ = some (Value.int .i64 ho))
          go_wp2_with (go_at_call 163; refine (given_set g base xs _ _ _ _ _ w0 _ ?ga ?gb ?gc).mono ?_; (case ga => exact HG1.out.below (below_alloc (Below.refl _ _) _)); (case gb => exact below_then HB.out HBS.out (below_alloc HBW.out _)); (case gc => exact HL.out); rintro e_ w7 ⟨rfl, h1, h2⟩)
          go_end0
          have HS : setTM fam ft os = ⟨fam, tg, false, cutT ft, cutT ft⟩ := by unfold setTM; rw [HX.out]; simp
          exact ⟨rfl, by rw [HS]; exact h1, h2⟩
        · have y1 := fun o => (blk_cell (blk_alloc HTC.out o) 1).trans (rfl : _ = some (Value.bool true))
          have y2 := fun o => (blk_cell (blk_alloc HTC.out o) 2).trans (rfl : _ = some (Value.int .i64 ho))
          go_wp2_with (go_at_call 163; refine (given_set g base xs _ _ _ _ _ w0 _ ?ga ?gb ?gc).mono ?_; (case ga => exact HG1.out.below (below_alloc (Below.refl _ _) _)); (case gb => exact below_then HB.out HBS.out (below_alloc HBW.out _)); (case gc => exact HL.out); rintro e_ w7 ⟨rfl, h1, h2⟩)
          go_end0
          have HS : setTM fam ft os = ⟨fam, tg, false, cutT ft, ho⟩ := by unfold setTM; rw [HX.out]; simp
          exact ⟨rfl, by rw [HS]; exact h1, h2⟩
end Go.Proofs.Ytoigekmdicepnaa
