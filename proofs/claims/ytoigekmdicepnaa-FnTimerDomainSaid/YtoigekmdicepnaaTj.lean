/- Contract: the calls of timers and what the provider is given. -/
import Derived.Test.YtoigekmdicepnaaTg
import Derived.Test.YtoigekmdicepnaaTh
import Derived.Test.YtoigekmdicepnaaTi
set_option linter.unusedVariables false
set_option linter.unusedSimpArgs false
namespace Go.Proofs.Ytoigekmdicepnaa
open Go.RowKit Go.Proofs.YtoigekmdicepnaaW.PrintWords Go.Proofs.YtoigekmdicepnaaW.PrintLast Go.Proofs.YtoigekmdicepnaaW.PrintMore

/-- A step of timers. -/
abbrev S44 := PFnTimerRun.S44
def rdS (xs : List S44) (i : Nat) : S44 := xs.getD i PFnTimerRun.z44
def S44.cells (x : S44) : Array Value := #[.bool x.f0, .string x.f1, .int .i64 x.f2, .int .i64 x.f3, .string x.f4, .bool x.f5, .int .i64 x.f6, .int .i64 x.f7]
theorem atS {w : World} {A : Option Addr} {n : Nat} {xs : List S44} (h : Kd.C PFnTimerRun.k44 w A n xs) (i : Nat) (h1 : i < n) : ∃ ad, A = some ad ∧ w.cell? (ad.add (i * 8)) = some (.bool (rdS xs i).f0) ∧ w.cell? ⟨(ad.add (i * 8)).block, (ad.add (i * 8)).off + 1, none⟩ = some (.string (rdS xs i).f1) ∧ w.cell? ⟨(ad.add (i * 8)).block, (ad.add (i * 8)).off + 2, none⟩ = some (.int .i64 (rdS xs i).f2) ∧ w.cell? ⟨(ad.add (i * 8)).block, (ad.add (i * 8)).off + 3, none⟩ = some (.int .i64 (rdS xs i).f3) ∧ w.cell? ⟨(ad.add (i * 8)).block, (ad.add (i * 8)).off + 4, none⟩ = some (.string (rdS xs i).f4) ∧ w.cell? ⟨(ad.add (i * 8)).block, (ad.add (i * 8)).off + 5, none⟩ = some (.bool (rdS xs i).f5) ∧ w.cell? ⟨(ad.add (i * 8)).block, (ad.add (i * 8)).off + 6, none⟩ = some (.int .i64 (rdS xs i).f6) ∧ w.cell? ⟨(ad.add (i * 8)).block, (ad.add (i * 8)).off + 7, none⟩ = some (.int .i64 (rdS xs i).f7) := by
  obtain ⟨ad, c, e, _, hK, hc0⟩ := Kd.C_get h PFnTimerRun.z44 (i : Int) (by omega) (by omega)
  have hc : ∀ j u, c[j]? = some u → w.cell? (ad.add (i * 8 + j)) = some u := hc0
  obtain rfl := PFnTimerRun.k44_open hK
  exact ⟨ad, e, hc 0 _ rfl, by rw [← add_field _ _ 1 (by omega)]; exact hc 1 _ rfl, by rw [← add_field _ _ 2 (by omega)]; exact hc 2 _ rfl, by rw [← add_field _ _ 3 (by omega)]; exact hc 3 _ rfl, by rw [← add_field _ _ 4 (by omega)]; exact hc 4 _ rfl, by rw [← add_field _ _ 5 (by omega)]; exact hc 5 _ rfl, by rw [← add_field _ _ 6 (by omega)]; exact hc 6 _ rfl, by rw [← add_field _ _ 7 (by omega)]; exact hc 7 _ rfl⟩
/-- What a step gives the provider. -/
def stepOf (x : S44) : TM := if x.f2 = 1 then ⟨x.f1, ByteArray.empty, true, 0, 0⟩ else if x.f2 = 2 then ⟨x.f1, x.f4, true, 0, 0⟩ else stepTM x.f1 x.f4 x.f5 x.f3 x.f6 x.f7
def okS (x : S44) : Prop := (x.f2 = 0 ∨ x.f2 = 1 ∨ x.f2 = 2) ∧ (x.f6 = 0 ∨ x.f6 = 1 ∨ x.f6 = 2)
theorem timerSet_any (fam tag : ByteArray) (p tagged : Bool) (op at_ hold hat : Int) (hh : hold = 0 ∨ hold = 1 ∨ hold = 2) (g base : Nat) (xs : List TM) (w0 w : World) (hG : GV w g base xs) (hB : Below base w0 w) (hl : xs.length ≤ 1000000000) :
    Calls Try.prog 54 #[.pointer (some ⟨g, 0, none⟩), .agg #[.bool p, .string fam, .int .i64 op, .int .i64 at_, .string tag, .bool tagged, .int .i64 hold, .int .i64 hat], .int .i64 at_, .agg #[.string fam], .agg #[.string fam]] w fun e w' => e = .returned (.tuple #[]) ∧ GV w' g base (xs ++ [stepTM fam tag tagged at_ hold hat]) ∧ Below base w0 w' := by
  rcases hh with rfl | rfl | rfl <;> cases tagged <;> cases p
  · exact timerSet_f0e fam tag op at_ hat g base xs w0 w hG hB hl
  · exact timerSet_f0p fam tag op at_ hat g base xs w0 w hG hB hl
  · exact timerSet_t0e fam tag op at_ hat g base xs w0 w hG hB hl
  · exact timerSet_t0p fam tag op at_ hat g base xs w0 w hG hB hl
  · exact timerSet_f1e fam tag op at_ hat g base xs w0 w hG hB hl
  · exact timerSet_f1p fam tag op at_ hat g base xs w0 w hG hB hl
  · exact timerSet_t1e fam tag op at_ hat g base xs w0 w hG hB hl
  · exact timerSet_t1p fam tag op at_ hat g base xs w0 w hG hB hl
  · exact timerSet_f2e fam tag op at_ hat g base xs w0 w hG hB hl
  · exact timerSet_f2p fam tag op at_ hat g base xs w0 w hG hB hl
  · exact timerSet_t2e fam tag op at_ hat g base xs w0 w hG hB hl
  · exact timerSet_t2p fam tag op at_ hat g base xs w0 w hG hB hl
theorem inE_any (s : ByteArray) (w : World) : Calls Try.prog 48 #[.string s] w fun e w' => e = .returned (.agg #[.string s]) ∧ Below w.heap.size w w' := by
  go_enter Try.func48, Try.ntmps48
  go_wp2
  go_returns
  exact ⟨rfl, by repeat (first | exact Below.refl _ _ | apply below_alloc | apply below_drew | refine below_set ?_ (by simp) | (refine Below.setCell ?_ (by simp) _))⟩
theorem inP_any (s : ByteArray) (w : World) : Calls Try.prog 49 #[.string s] w fun e w' => e = .returned (.agg #[.string s]) ∧ Below w.heap.size w w' := by
  go_enter Try.func49, Try.ntmps49
  go_wp2
  go_returns
  exact ⟨rfl, by repeat (first | exact Below.refl _ _ | apply below_alloc | apply below_drew | refine below_set ?_ (by simp) | (refine Below.setCell ?_ (by simp) _))⟩
theorem takeS_succ (l : List S44) (k : Nat) (h : k < l.length) : (l.take (k + 1)).map stepOf = (l.take k).map stepOf ++ [stepOf (rdS l k)] := by
  have e : rdS l k = l[k] := by simp [rdS, List.getD_eq_getElem?_getD, h]
  rw [e, List.take_succ_eq_append_getElem h, List.map_append]
  rfl
theorem GV_start (w : World) : GV (w.alloc (.cells #[.slice none 0 0] 112)) w.heap.size w.heap.size [] := ⟨_, heap_alloc_new w _, Kd.R_nil _ _ _ _ _, Nat.le_refl _⟩
theorem GV.set {w : World} {g base n t : Nat} {xs : List TM} {cells : Array Value} (h : GV w g base xs) (hb : w.heap[n]? = some (.cells cells t (0, 0))) (h1 : 48 ≠ t) (h2 : 112 ≠ t) (j : Nat) (u : Value) : GV (w.setCell ⟨n, j, none⟩ u) g base xs := by
  obtain ⟨v, q1, q2, q3⟩ := h
  exact ⟨v, blk_far (p := ⟨n, j, none⟩) q1 (blk_ne q1 hb h2) u, Kd.R_set q2 hb (fun q hq => by have e : q = 48 := (by simpa [kTM, Kd.iso, Kd.pair, Kd.string, Kd.bool, Kd.int, Kd.scalar] using hq); subst e; exact h1) j u, q3⟩
def timerRun.T6 : Bool × List (List Nat × List Nat) := (true, [([], []), ([0], [0]), ([1], [1]), ([], []), ([3], [3]), ([4, 2], [4]), ([], []), ([], []), ([6, 2, 5, 0, 1, 2, 6, 7], [2, 6]), ([7, 5, 8, 0, 1, 2, 3, 4, 5, 6, 7, 8], [5, 7])])
def timerRun.B6 : List Nat := [0, 1, 3, 0, 8, 31, 0, 0, 255, 511]
theorem timerRun.tab6 : rtab .any (opsOf Try.f21 6) = timerRun.T6 := by kernel_rfl
theorem timerRun.bits6 : waitsOk timerRun.T6.2 timerRun.B6 = true := by kernel_rfl
set_option maxRecDepth 100000 in
set_option maxHeartbeats 8000000 in
theorem timerRun_any (A0 : Option Addr) (c0 : Nat) (l : List S44) (w : World) (hC : Kd.C PFnTimerRun.k44 w A0 l.length l) (hok : ∀ k, k < l.length → okS (rdS l k)) (hl : l.length ≤ 1000) :
    Calls Try.prog 21 #[.slice A0 l.length c0] w fun e w' => ∃ v, e = .returned v ∧ Kd.R kTM 48 w' w.heap.size (fun _ => True) v (l.map stepOf) ∧ Below w.heap.size w w' := by
  have HC := Aside0.mk hC
  have HOK := Aside0.mk hok
  have HL := Aside0.mk hl
  have HG := Aside0.mk (GV_start w)
  have HB := Aside0.mk (below_alloc (Below.refl w.heap.size w) (.cells #[.slice none 0 0] 112))
  clear hC hok hl
  go_enter Try.func21, Try.ntmps21
  go_wp2
  go_loopg [13] l.length (fun kq v13 w' => ∃ k : Nat, k ≤ l.length ∧ Aside0 (kq = l.length - k) ∧ v13 = .int .i64 k ∧ Aside0 (GV w' w.heap.size w.heap.size ((l.take k).map stepOf)) ∧ Aside0 (Below w.heap.size w w'))
  case atStart => exact ⟨0, Nat.zero_le _, ⟨by simp⟩, rfl, HG, HB⟩
  case round =>
    clear HG HB
    obtain ⟨k, hk, hq, rfl, HG, HB⟩ := hrel
    have q1 : (l.length : Int) ≤ 9223372036854775807 := by have := HL.out; omega
    by_cases hlt : k < l.length
    · obtain ⟨ad, ea, x0, x1, x2, x3, x4, x5, x6, x7⟩ := atS HC.out k hlt
      subst ea
      replace x0 := (HB.out.cell (World.block_lt_of_cell? w _ x0)).trans x0
      replace x1 := (HB.out.cell (World.block_lt_of_cell? w _ x1)).trans x1
      replace x2 := (HB.out.cell (World.block_lt_of_cell? w _ x2)).trans x2
      replace x3 := (HB.out.cell (World.block_lt_of_cell? w _ x3)).trans x3
      replace x4 := (HB.out.cell (World.block_lt_of_cell? w _ x4)).trans x4
      replace x5 := (HB.out.cell (World.block_lt_of_cell? w _ x5)).trans x5
      replace x6 := (HB.out.cell (World.block_lt_of_cell? w _ x6)).trans x6
      replace x7 := (HB.out.cell (World.block_lt_of_cell? w _ x7)).trans x7
      have HOS := Aside0.mk (HOK.out k hlt)
      have HTS := Aside0.mk (takeS_succ l k hlt)
      have HLX := Aside0.mk (show ((l.take k).map stepOf).length ≤ 1000000000 by have := HL.out; rw [List.length_map, List.length_take]; omega)
      generalize hx : rdS l k = x at x0 x1 x2 x3 x4 x5 x6 x7 HOS HTS
      clear hx
      obtain ⟨f0, f1, f2, f3, f4, f5, f6, f7⟩ := x
      simp only at x0 x1 x2 x3 x4 x5 x6 x7
      have HBS := Aside0.mk (show w.heap.size ≤ wr.heap.size from HB.out.size)
      have B5 := Aside0.mk (blk_drew (heap_alloc_new wr (.cells #[.bool f0, .string f1, .int .i64 f2, .int .i64 f3, .string f4, .bool f5, .int .i64 f6, .int .i64 f7] 44)))
      have HG := Aside0.mk (HG.out.below (below_drew (below_alloc (Below.refl _ _) (.cells #[.bool f0, .string f1, .int .i64 f2, .int .i64 f3, .string f4, .bool f5, .int .i64 f6, .int .i64 f7] 44))))
      have HB := Aside0.mk (below_drew (HB.out.alloc HBS.out (.cells #[.bool f0, .string f1, .int .i64 f2, .int .i64 f3, .string f4, .bool f5, .int .i64 f6, .int .i64 f7] 44)))
      have HBS := Aside0.mk (show w.heap.size ≤ (wr.alloc (.cells #[.bool f0, .string f1, .int .i64 f2, .int .i64 f3, .string f4, .bool f5, .int .i64 f6, .int .i64 f7] 44)).drew.heap.size from HB.out.size)
      go_wp2_with fail
      have KS := Aside0.mk (fun (z : World) (h : z.heap[wr.heap.size]? = some (.cells #[.bool f0, .string f1, .int .i64 f2, .int .i64 f3, .string f4, .bool f5, .int .i64 f6, .int .i64 f7] 44 (0, 0))) => ((blk_cell h 1).trans rfl : z.cell? ⟨wr.heap.size, 1, none⟩ = some (.string f1)))
      generalize hW : (wr.alloc (.cells #[.bool f0, .string f1, .int .i64 f2, .int .i64 f3, .string f4, .bool f5, .int .i64 f6, .int .i64 f7] 44)) = W0 at *
      have K0 := KS.out _ B5.out
      refine start_ (n := 10) (S := fun w' => w'.cell? ⟨wr.heap.size, 1, none⟩ = some (.string f1)) (ds := [8, 9]) #[false, false, false, false, false, false, false, false, false, false] (by kernel_rfl) rfl rfl K0 (fun hHeld => ?_)
      refine with_tabW timerRun.tab6 timerRun.bits6 (fun HT_ HW_ => ?_)
      generalize W0.drew = W at *
      -- 0: t19 := fieldAddr 44 t5 1 : 0 
      refine pure_ (i := 0) (N := some 19) (v := ?_) (a' := ?_) #[true, false, false, false, false, false, false, false, false, false] rfl rfl (any_of HT_.out (by kernel_rfl)) (fun _ _ _ h => h) (Or.inl ⟨by rfl, ?_⟩) ?_ ?_
      rotate_left
      · intro w'
        go_simp
        with_reducible rfl
      rotate_left
      · simp only [Act.put, List.setIfInBounds_toArray, List.set_cons_zero, List.set_cons_succ, i64_w, i32_w]
        rfl
      -- 3: t22 := fieldAddr 44 t5 1 : 0 
      refine pure_ (i := 3) (N := some 22) (v := ?_) (a' := ?_) #[true, false, false, true, false, false, false, false, false, false] rfl rfl (any_of HT_.out (by kernel_rfl)) (fun _ _ _ h => h) (Or.inl ⟨by rfl, ?_⟩) ?_ ?_
      rotate_left
      · intro w'
        go_simp
        with_reducible rfl
      rotate_left
      · simp only [Act.put, List.setIfInBounds_toArray, List.set_cons_zero, List.set_cons_succ, i64_w, i32_w]
        rfl
      -- 1: t20 := load 9 t19 : 9 
      refine take_ (i := 1) (N := some 20) (v := ?_) (a' := ?_) #[true, true, false, true, false, false, false, false, false, false] rfl rfl (take_ofW HT_.out HW_.out (by kernel_rfl)) (fun _ _ _ h => h) (Or.inl ⟨by rfl, ?_⟩) hHeld ?_ ?_
      rotate_left
      · rintro w' s0
        go_simp
        with_reducible rfl
      rotate_left
      · simp only [Act.put, List.setIfInBounds_toArray, List.set_cons_zero, List.set_cons_succ, i64_w, i32_w]
        rfl
      -- 4: t23 := load 9 t22 : 9 
      refine take_ (i := 4) (N := some 23) (v := ?_) (a' := ?_) #[true, true, false, true, true, false, false, false, false, false] rfl rfl (take_ofW HT_.out HW_.out (by kernel_rfl)) (fun _ _ _ h => h) (Or.inl ⟨by rfl, ?_⟩) hHeld ?_ ?_
      rotate_left
      · rintro w' s0
        go_simp
        with_reducible rfl
      rotate_left
      · simp only [Act.put, List.setIfInBounds_toArray, List.set_cons_zero, List.set_cons_succ, i64_w, i32_w]
        rfl
      refine join_ (σ := Nat × Nat) 2 #[true, true, true, true, true, true, true, true, false, false] (fun s_ => [(21, .agg #[.string f1]), (24, .agg #[.string f1]), (7, .pointer (some ⟨s_.1, 0, none⟩)), (8, .pointer (some ⟨s_.2, 0, none⟩))]) (fun s_ w' => w'.heap[s_.1]? = some (.cells #[.string ByteArray.empty] 115 (0, 0)) ∧ w'.heap[s_.2]? = some (.cells #[.string ByteArray.empty] 117 (0, 0)) ∧ w'.heap[wr.heap.size]? = some (.cells #[.bool f0, .string f1, .int .i64 f2, .int .i64 f3, .string f4, .bool f5, .int .i64 f6, .int .i64 f7] 44 (0, 0)) ∧ GV w' w.heap.size w.heap.size ((l.take k).map stepOf) ∧ Below w.heap.size w w' ∧ w.heap.size ≤ w'.heap.size ∧ w.heap.size ≤ s_.1 ∧ w.heap.size ≤ s_.2) ?_ ?_
      rotate_left
      · intro hCont
        refine three_ (i := 2) (j := 6) (k := 7) (Ni := some 21) (Nj := some 7) (Nk := some 8) #[true, true, true, true, true, false, false, false, false, false] #[true, true, false, true, true, false, true, false, false, false] #[true, true, false, true, true, false, false, true, false, false] rfl rfl rfl rfl rfl rfl (three_of HT_.out (by kernel_rfl)) (by decide) (by decide) (by decide) (fun K hK => ?_) (fun K hK => ?_) (fun K hK => ?_)
        · skip
          refine goes_ Try.func48 (by kernel_rfl) rfl #[.string f1] (by rfl) rfl rfl (by (try simp only [List.map_toArray, List.map_cons, List.map_nil]); first | done | rfl) ?_
          refine (inE_any f1 _).mono ?_
          rintro e_ V1 ⟨rfl, hb⟩
          refine ⟨_, rfl, ?_⟩
          have B5 := Aside0.mk (blk_below B5.out hb)
          have HG := Aside0.mk (HG.out.below hb)
          have HB := Aside0.mk (below_then HB.out HBS.out hb)
          have HBS := Aside0.mk (Nat.le_trans HBS.out hb.size)
          clear hb
          refine hK.out _ _ (KS.out _ B5.out) (fun hHeld => ?_)
          clear hK K
          refine norm_ (a' := ?_) ?_ ?_
          rotate_left
          · show Act.put _ (some 21) _ = _
            simp only [Act.put, List.setIfInBounds_toArray, List.set_cons_zero, List.set_cons_succ, i64_w, i32_w]
            rfl
          refine three_ (i := 5) (j := 6) (k := 7) (Ni := some 24) (Nj := some 7) (Nk := some 8) #[true, true, true, true, true, true, false, false, false, false] #[true, true, true, true, true, false, true, false, false, false] #[true, true, true, true, true, false, false, true, false, false] rfl rfl rfl rfl rfl rfl (three_of HT_.out (by kernel_rfl)) (by decide) (by decide) (by decide) (fun K hK => ?_) (fun K hK => ?_) (fun K hK => ?_)
          · skip
            refine goes_ Try.func49 (by kernel_rfl) rfl #[.string f1] (by rfl) rfl rfl (by (try simp only [List.map_toArray, List.map_cons, List.map_nil]); first | done | rfl) ?_
            refine (inP_any f1 _).mono ?_
            rintro e_ V2 ⟨rfl, hb⟩
            refine ⟨_, rfl, ?_⟩
            have B5 := Aside0.mk (blk_below B5.out hb)
            have HG := Aside0.mk (HG.out.below hb)
            have HB := Aside0.mk (below_then HB.out HBS.out hb)
            have HBS := Aside0.mk (Nat.le_trans HBS.out hb.size)
            clear hb
            refine hK.out _ _ (KS.out _ B5.out) (fun hHeld => ?_)
            clear hK K
            refine norm_ (a' := ?_) ?_ ?_
            rotate_left
            · show Act.put _ (some 24) _ = _
              simp only [Act.put, List.setIfInBounds_toArray, List.set_cons_zero, List.set_cons_succ, i64_w, i32_w]
              rfl
            refine two_ (i := 6) (j := 7) (Ni := some 7) (Nj := some 8) #[true, true, true, true, true, true, true, false, false, false] #[true, true, true, true, true, true, false, true, false, false] rfl rfl rfl rfl (two_of HT_.out (by kernel_rfl)) (by decide) (by decide) (fun K hK => ?_) (fun K hK => ?_)
            · skip
              refine event_step (v := .pointer (some ⟨V2.heap.size, 0, none⟩)) (w1 := V2.alloc (.cells #[.string ByteArray.empty] 115)) (by rfl) (by first | (go_simp; done) | (go_simp; rfl)) ?_
              have hb : Below V2.heap.size V2 (V2.alloc (.cells #[.string ByteArray.empty] 115)) := below_alloc (Below.refl _ _) _
              have B7 := Aside0.mk (heap_alloc_new V2 (.cells #[.string ByteArray.empty] 115))
              obtain ⟨n7, hn7⟩ : ∃ n, n = V2.heap.size := ⟨_, rfl⟩
              have LE7 := Aside0.mk (show w.heap.size ≤ n7 by rw [hn7]; exact HBS.out)
              rw [← hn7] at B7 ⊢
              have B5 := Aside0.mk (blk_below B5.out hb)
              have HG := Aside0.mk (HG.out.below hb)
              have HB := Aside0.mk (below_then HB.out HBS.out hb)
              have HBS := Aside0.mk (Nat.le_trans HBS.out hb.size)
              clear hb
              generalize V2.alloc (.cells #[.string ByteArray.empty] 115) = V3 at *
              clear hn7
              refine hK.out _ _ (KS.out _ B5.out) (fun hHeld => ?_)
              clear hK K
              refine norm_ (a' := ?_) ?_ ?_
              rotate_left
              · show Act.put _ (some 7) _ = _
                simp only [Act.put, List.setIfInBounds_toArray, List.set_cons_zero, List.set_cons_succ, i64_w, i32_w]
                rfl
              refine one_ (i := 7) (N := some 8) #[true, true, true, true, true, true, true, true, false, false] rfl rfl (one_of HT_.out (by kernel_rfl)) (by decide) (fun K hK => ?_)
              refine event_step (v := .pointer (some ⟨V3.heap.size, 0, none⟩)) (w1 := V3.alloc (.cells #[.string ByteArray.empty] 117)) (by rfl) (by first | (go_simp; done) | (go_simp; rfl)) ?_
              have hb : Below V3.heap.size V3 (V3.alloc (.cells #[.string ByteArray.empty] 117)) := below_alloc (Below.refl _ _) _
              have B8 := Aside0.mk (heap_alloc_new V3 (.cells #[.string ByteArray.empty] 117))
              obtain ⟨n8, hn8⟩ : ∃ n, n = V3.heap.size := ⟨_, rfl⟩
              have LE8 := Aside0.mk (show w.heap.size ≤ n8 by rw [hn8]; exact HBS.out)
              rw [← hn8] at B8 ⊢
              have B5 := Aside0.mk (blk_below B5.out hb)
              have HG := Aside0.mk (HG.out.below hb)
              have HB := Aside0.mk (below_then HB.out HBS.out hb)
              have B7 := Aside0.mk (blk_below B7.out hb)
              have HBS := Aside0.mk (Nat.le_trans HBS.out hb.size)
              clear hb
              generalize V3.alloc (.cells #[.string ByteArray.empty] 117) = V4 at *
              clear hn8
              refine hK.out _ _ (KS.out _ B5.out) (fun hHeld => ?_)
              clear hK K
              refine norm_ (a' := ?_) ?_ ?_
              rotate_left
              · show Act.put _ (some 8) _ = _
                simp only [Act.put, List.setIfInBounds_toArray, List.set_cons_zero, List.set_cons_succ, i64_w, i32_w]
                rfl
              exact norm_ (by simp only [putAll, Act.put, List.setIfInBounds_toArray, List.set_cons_zero, List.set_cons_succ]) (hCont (n7, n8) _ ⟨B7.out, B8.out, B5.out, HG.out, HB.out, HBS.out, LE7.out, LE8.out⟩)
            · skip
              refine event_step (v := .pointer (some ⟨V2.heap.size, 0, none⟩)) (w1 := V2.alloc (.cells #[.string ByteArray.empty] 117)) (by rfl) (by first | (go_simp; done) | (go_simp; rfl)) ?_
              have hb : Below V2.heap.size V2 (V2.alloc (.cells #[.string ByteArray.empty] 117)) := below_alloc (Below.refl _ _) _
              have B8 := Aside0.mk (heap_alloc_new V2 (.cells #[.string ByteArray.empty] 117))
              obtain ⟨n8, hn8⟩ : ∃ n, n = V2.heap.size := ⟨_, rfl⟩
              have LE8 := Aside0.mk (show w.heap.size ≤ n8 by rw [hn8]; exact HBS.out)
              rw [← hn8] at B8 ⊢
              have B5 := Aside0.mk (blk_below B5.out hb)
              have HG := Aside0.mk (HG.out.below hb)
              have HB := Aside0.mk (below_then HB.out HBS.out hb)
              have HBS := Aside0.mk (Nat.le_trans HBS.out hb.size)
              clear hb
              generalize V2.alloc (.cells #[.string ByteArray.empty] 117) = V5 at *
              clear hn8
              refine hK.out _ _ (KS.out _ B5.out) (fun hHeld => ?_)
              clear hK K
              refine norm_ (a' := ?_) ?_ ?_
              rotate_left
              · show Act.put _ (some 8) _ = _
                simp only [Act.put, List.setIfInBounds_toArray, List.set_cons_zero, List.set_cons_succ, i64_w, i32_w]
                rfl
              refine one_ (i := 6) (N := some 7) #[true, true, true, true, true, true, true, true, false, false] rfl rfl (one_of HT_.out (by kernel_rfl)) (by decide) (fun K hK => ?_)
              refine event_step (v := .pointer (some ⟨V5.heap.size, 0, none⟩)) (w1 := V5.alloc (.cells #[.string ByteArray.empty] 115)) (by rfl) (by first | (go_simp; done) | (go_simp; rfl)) ?_
              have hb : Below V5.heap.size V5 (V5.alloc (.cells #[.string ByteArray.empty] 115)) := below_alloc (Below.refl _ _) _
              have B7 := Aside0.mk (heap_alloc_new V5 (.cells #[.string ByteArray.empty] 115))
              obtain ⟨n7, hn7⟩ : ∃ n, n = V5.heap.size := ⟨_, rfl⟩
              have LE7 := Aside0.mk (show w.heap.size ≤ n7 by rw [hn7]; exact HBS.out)
              rw [← hn7] at B7 ⊢
              have B5 := Aside0.mk (blk_below B5.out hb)
              have HG := Aside0.mk (HG.out.below hb)
              have HB := Aside0.mk (below_then HB.out HBS.out hb)
              have B8 := Aside0.mk (blk_below B8.out hb)
              have HBS := Aside0.mk (Nat.le_trans HBS.out hb.size)
              clear hb
              generalize V5.alloc (.cells #[.string ByteArray.empty] 115) = V6 at *
              clear hn7
              refine hK.out _ _ (KS.out _ B5.out) (fun hHeld => ?_)
              clear hK K
              refine norm_ (a' := ?_) ?_ ?_
              rotate_left
              · show Act.put _ (some 7) _ = _
                simp only [Act.put, List.setIfInBounds_toArray, List.set_cons_zero, List.set_cons_succ, i64_w, i32_w]
                rfl
              exact norm_ (by simp only [putAll, Act.put, List.setIfInBounds_toArray, List.set_cons_zero, List.set_cons_succ]) (hCont (n7, n8) _ ⟨B7.out, B8.out, B5.out, HG.out, HB.out, HBS.out, LE7.out, LE8.out⟩)
          · skip
            refine event_step (v := .pointer (some ⟨V1.heap.size, 0, none⟩)) (w1 := V1.alloc (.cells #[.string ByteArray.empty] 115)) (by rfl) (by first | (go_simp; done) | (go_simp; rfl)) ?_
            have hb : Below V1.heap.size V1 (V1.alloc (.cells #[.string ByteArray.empty] 115)) := below_alloc (Below.refl _ _) _
            have B7 := Aside0.mk (heap_alloc_new V1 (.cells #[.string ByteArray.empty] 115))
            obtain ⟨n7, hn7⟩ : ∃ n, n = V1.heap.size := ⟨_, rfl⟩
            have LE7 := Aside0.mk (show w.heap.size ≤ n7 by rw [hn7]; exact HBS.out)
            rw [← hn7] at B7 ⊢
            have B5 := Aside0.mk (blk_below B5.out hb)
            have HG := Aside0.mk (HG.out.below hb)
            have HB := Aside0.mk (below_then HB.out HBS.out hb)
            have HBS := Aside0.mk (Nat.le_trans HBS.out hb.size)
            clear hb
            generalize V1.alloc (.cells #[.string ByteArray.empty] 115) = V7 at *
            clear hn7
            refine hK.out _ _ (KS.out _ B5.out) (fun hHeld => ?_)
            clear hK K
            refine norm_ (a' := ?_) ?_ ?_
            rotate_left
            · show Act.put _ (some 7) _ = _
              simp only [Act.put, List.setIfInBounds_toArray, List.set_cons_zero, List.set_cons_succ, i64_w, i32_w]
              rfl
            refine two_ (i := 5) (j := 7) (Ni := some 24) (Nj := some 8) #[true, true, true, true, true, true, true, false, false, false] #[true, true, true, true, true, false, true, true, false, false] rfl rfl rfl rfl (two_of HT_.out (by kernel_rfl)) (by decide) (by decide) (fun K hK => ?_) (fun K hK => ?_)
            · skip
              refine goes_ Try.func49 (by kernel_rfl) rfl #[.string f1] (by rfl) rfl rfl (by (try simp only [List.map_toArray, List.map_cons, List.map_nil]); first | done | rfl) ?_
              refine (inP_any f1 _).mono ?_
              rintro e_ V8 ⟨rfl, hb⟩
              refine ⟨_, rfl, ?_⟩
              have B5 := Aside0.mk (blk_below B5.out hb)
              have HG := Aside0.mk (HG.out.below hb)
              have HB := Aside0.mk (below_then HB.out HBS.out hb)
              have B7 := Aside0.mk (blk_below B7.out hb)
              have HBS := Aside0.mk (Nat.le_trans HBS.out hb.size)
              clear hb
              refine hK.out _ _ (KS.out _ B5.out) (fun hHeld => ?_)
              clear hK K
              refine norm_ (a' := ?_) ?_ ?_
              rotate_left
              · show Act.put _ (some 24) _ = _
                simp only [Act.put, List.setIfInBounds_toArray, List.set_cons_zero, List.set_cons_succ, i64_w, i32_w]
                rfl
              refine one_ (i := 7) (N := some 8) #[true, true, true, true, true, true, true, true, false, false] rfl rfl (one_of HT_.out (by kernel_rfl)) (by decide) (fun K hK => ?_)
              refine event_step (v := .pointer (some ⟨V8.heap.size, 0, none⟩)) (w1 := V8.alloc (.cells #[.string ByteArray.empty] 117)) (by rfl) (by first | (go_simp; done) | (go_simp; rfl)) ?_
              have hb : Below V8.heap.size V8 (V8.alloc (.cells #[.string ByteArray.empty] 117)) := below_alloc (Below.refl _ _) _
              have B8 := Aside0.mk (heap_alloc_new V8 (.cells #[.string ByteArray.empty] 117))
              obtain ⟨n8, hn8⟩ : ∃ n, n = V8.heap.size := ⟨_, rfl⟩
              have LE8 := Aside0.mk (show w.heap.size ≤ n8 by rw [hn8]; exact HBS.out)
              rw [← hn8] at B8 ⊢
              have B5 := Aside0.mk (blk_below B5.out hb)
              have HG := Aside0.mk (HG.out.below hb)
              have HB := Aside0.mk (below_then HB.out HBS.out hb)
              have B7 := Aside0.mk (blk_below B7.out hb)
              have HBS := Aside0.mk (Nat.le_trans HBS.out hb.size)
              clear hb
              generalize V8.alloc (.cells #[.string ByteArray.empty] 117) = V9 at *
              clear hn8
              refine hK.out _ _ (KS.out _ B5.out) (fun hHeld => ?_)
              clear hK K
              refine norm_ (a' := ?_) ?_ ?_
              rotate_left
              · show Act.put _ (some 8) _ = _
                simp only [Act.put, List.setIfInBounds_toArray, List.set_cons_zero, List.set_cons_succ, i64_w, i32_w]
                rfl
              exact norm_ (by simp only [putAll, Act.put, List.setIfInBounds_toArray, List.set_cons_zero, List.set_cons_succ]) (hCont (n7, n8) _ ⟨B7.out, B8.out, B5.out, HG.out, HB.out, HBS.out, LE7.out, LE8.out⟩)
            · skip
              refine event_step (v := .pointer (some ⟨V7.heap.size, 0, none⟩)) (w1 := V7.alloc (.cells #[.string ByteArray.empty] 117)) (by rfl) (by first | (go_simp; done) | (go_simp; rfl)) ?_
              have hb : Below V7.heap.size V7 (V7.alloc (.cells #[.string ByteArray.empty] 117)) := below_alloc (Below.refl _ _) _
              have B8 := Aside0.mk (heap_alloc_new V7 (.cells #[.string ByteArray.empty] 117))
              obtain ⟨n8, hn8⟩ : ∃ n, n = V7.heap.size := ⟨_, rfl⟩
              have LE8 := Aside0.mk (show w.heap.size ≤ n8 by rw [hn8]; exact HBS.out)
              rw [← hn8] at B8 ⊢
              have B5 := Aside0.mk (blk_below B5.out hb)
              have HG := Aside0.mk (HG.out.below hb)
              have HB := Aside0.mk (below_then HB.out HBS.out hb)
              have B7 := Aside0.mk (blk_below B7.out hb)
              have HBS := Aside0.mk (Nat.le_trans HBS.out hb.size)
              clear hb
              generalize V7.alloc (.cells #[.string ByteArray.empty] 117) = V10 at *
              clear hn8
              refine hK.out _ _ (KS.out _ B5.out) (fun hHeld => ?_)
              clear hK K
              refine norm_ (a' := ?_) ?_ ?_
              rotate_left
              · show Act.put _ (some 8) _ = _
                simp only [Act.put, List.setIfInBounds_toArray, List.set_cons_zero, List.set_cons_succ, i64_w, i32_w]
                rfl
              refine one_ (i := 5) (N := some 24) #[true, true, true, true, true, true, true, true, false, false] rfl rfl (one_of HT_.out (by kernel_rfl)) (by decide) (fun K hK => ?_)
              refine goes_ Try.func49 (by kernel_rfl) rfl #[.string f1] (by rfl) rfl rfl (by (try simp only [List.map_toArray, List.map_cons, List.map_nil]); first | done | rfl) ?_
              refine (inP_any f1 _).mono ?_
              rintro e_ V11 ⟨rfl, hb⟩
              refine ⟨_, rfl, ?_⟩
              have B5 := Aside0.mk (blk_below B5.out hb)
              have HG := Aside0.mk (HG.out.below hb)
              have HB := Aside0.mk (below_then HB.out HBS.out hb)
              have B7 := Aside0.mk (blk_below B7.out hb)
              have B8 := Aside0.mk (blk_below B8.out hb)
              have HBS := Aside0.mk (Nat.le_trans HBS.out hb.size)
              clear hb
              refine hK.out _ _ (KS.out _ B5.out) (fun hHeld => ?_)
              clear hK K
              refine norm_ (a' := ?_) ?_ ?_
              rotate_left
              · show Act.put _ (some 24) _ = _
                simp only [Act.put, List.setIfInBounds_toArray, List.set_cons_zero, List.set_cons_succ, i64_w, i32_w]
                rfl
              exact norm_ (by simp only [putAll, Act.put, List.setIfInBounds_toArray, List.set_cons_zero, List.set_cons_succ]) (hCont (n7, n8) _ ⟨B7.out, B8.out, B5.out, HG.out, HB.out, HBS.out, LE7.out, LE8.out⟩)
          · skip
            refine event_step (v := .pointer (some ⟨V1.heap.size, 0, none⟩)) (w1 := V1.alloc (.cells #[.string ByteArray.empty] 117)) (by rfl) (by first | (go_simp; done) | (go_simp; rfl)) ?_
            have hb : Below V1.heap.size V1 (V1.alloc (.cells #[.string ByteArray.empty] 117)) := below_alloc (Below.refl _ _) _
            have B8 := Aside0.mk (heap_alloc_new V1 (.cells #[.string ByteArray.empty] 117))
            obtain ⟨n8, hn8⟩ : ∃ n, n = V1.heap.size := ⟨_, rfl⟩
            have LE8 := Aside0.mk (show w.heap.size ≤ n8 by rw [hn8]; exact HBS.out)
            rw [← hn8] at B8 ⊢
            have B5 := Aside0.mk (blk_below B5.out hb)
            have HG := Aside0.mk (HG.out.below hb)
            have HB := Aside0.mk (below_then HB.out HBS.out hb)
            have HBS := Aside0.mk (Nat.le_trans HBS.out hb.size)
            clear hb
            generalize V1.alloc (.cells #[.string ByteArray.empty] 117) = V12 at *
            clear hn8
            refine hK.out _ _ (KS.out _ B5.out) (fun hHeld => ?_)
            clear hK K
            refine norm_ (a' := ?_) ?_ ?_
            rotate_left
            · show Act.put _ (some 8) _ = _
              simp only [Act.put, List.setIfInBounds_toArray, List.set_cons_zero, List.set_cons_succ, i64_w, i32_w]
              rfl
            refine two_ (i := 5) (j := 6) (Ni := some 24) (Nj := some 7) #[true, true, true, true, true, true, false, true, false, false] #[true, true, true, true, true, false, true, true, false, false] rfl rfl rfl rfl (two_of HT_.out (by kernel_rfl)) (by decide) (by decide) (fun K hK => ?_) (fun K hK => ?_)
            · skip
              refine goes_ Try.func49 (by kernel_rfl) rfl #[.string f1] (by rfl) rfl rfl (by (try simp only [List.map_toArray, List.map_cons, List.map_nil]); first | done | rfl) ?_
              refine (inP_any f1 _).mono ?_
              rintro e_ V13 ⟨rfl, hb⟩
              refine ⟨_, rfl, ?_⟩
              have B5 := Aside0.mk (blk_below B5.out hb)
              have HG := Aside0.mk (HG.out.below hb)
              have HB := Aside0.mk (below_then HB.out HBS.out hb)
              have B8 := Aside0.mk (blk_below B8.out hb)
              have HBS := Aside0.mk (Nat.le_trans HBS.out hb.size)
              clear hb
              refine hK.out _ _ (KS.out _ B5.out) (fun hHeld => ?_)
              clear hK K
              refine norm_ (a' := ?_) ?_ ?_
              rotate_left
              · show Act.put _ (some 24) _ = _
                simp only [Act.put, List.setIfInBounds_toArray, List.set_cons_zero, List.set_cons_succ, i64_w, i32_w]
                rfl
              refine one_ (i := 6) (N := some 7) #[true, true, true, true, true, true, true, true, false, false] rfl rfl (one_of HT_.out (by kernel_rfl)) (by decide) (fun K hK => ?_)
              refine event_step (v := .pointer (some ⟨V13.heap.size, 0, none⟩)) (w1 := V13.alloc (.cells #[.string ByteArray.empty] 115)) (by rfl) (by first | (go_simp; done) | (go_simp; rfl)) ?_
              have hb : Below V13.heap.size V13 (V13.alloc (.cells #[.string ByteArray.empty] 115)) := below_alloc (Below.refl _ _) _
              have B7 := Aside0.mk (heap_alloc_new V13 (.cells #[.string ByteArray.empty] 115))
              obtain ⟨n7, hn7⟩ : ∃ n, n = V13.heap.size := ⟨_, rfl⟩
              have LE7 := Aside0.mk (show w.heap.size ≤ n7 by rw [hn7]; exact HBS.out)
              rw [← hn7] at B7 ⊢
              have B5 := Aside0.mk (blk_below B5.out hb)
              have HG := Aside0.mk (HG.out.below hb)
              have HB := Aside0.mk (below_then HB.out HBS.out hb)
              have B8 := Aside0.mk (blk_below B8.out hb)
              have HBS := Aside0.mk (Nat.le_trans HBS.out hb.size)
              clear hb
              generalize V13.alloc (.cells #[.string ByteArray.empty] 115) = V14 at *
              clear hn7
              refine hK.out _ _ (KS.out _ B5.out) (fun hHeld => ?_)
              clear hK K
              refine norm_ (a' := ?_) ?_ ?_
              rotate_left
              · show Act.put _ (some 7) _ = _
                simp only [Act.put, List.setIfInBounds_toArray, List.set_cons_zero, List.set_cons_succ, i64_w, i32_w]
                rfl
              exact norm_ (by simp only [putAll, Act.put, List.setIfInBounds_toArray, List.set_cons_zero, List.set_cons_succ]) (hCont (n7, n8) _ ⟨B7.out, B8.out, B5.out, HG.out, HB.out, HBS.out, LE7.out, LE8.out⟩)
            · skip
              refine event_step (v := .pointer (some ⟨V12.heap.size, 0, none⟩)) (w1 := V12.alloc (.cells #[.string ByteArray.empty] 115)) (by rfl) (by first | (go_simp; done) | (go_simp; rfl)) ?_
              have hb : Below V12.heap.size V12 (V12.alloc (.cells #[.string ByteArray.empty] 115)) := below_alloc (Below.refl _ _) _
              have B7 := Aside0.mk (heap_alloc_new V12 (.cells #[.string ByteArray.empty] 115))
              obtain ⟨n7, hn7⟩ : ∃ n, n = V12.heap.size := ⟨_, rfl⟩
              have LE7 := Aside0.mk (show w.heap.size ≤ n7 by rw [hn7]; exact HBS.out)
              rw [← hn7] at B7 ⊢
              have B5 := Aside0.mk (blk_below B5.out hb)
              have HG := Aside0.mk (HG.out.below hb)
              have HB := Aside0.mk (below_then HB.out HBS.out hb)
              have B8 := Aside0.mk (blk_below B8.out hb)
              have HBS := Aside0.mk (Nat.le_trans HBS.out hb.size)
              clear hb
              generalize V12.alloc (.cells #[.string ByteArray.empty] 115) = V15 at *
              clear hn7
              refine hK.out _ _ (KS.out _ B5.out) (fun hHeld => ?_)
              clear hK K
              refine norm_ (a' := ?_) ?_ ?_
              rotate_left
              · show Act.put _ (some 7) _ = _
                simp only [Act.put, List.setIfInBounds_toArray, List.set_cons_zero, List.set_cons_succ, i64_w, i32_w]
                rfl
              refine one_ (i := 5) (N := some 24) #[true, true, true, true, true, true, true, true, false, false] rfl rfl (one_of HT_.out (by kernel_rfl)) (by decide) (fun K hK => ?_)
              refine goes_ Try.func49 (by kernel_rfl) rfl #[.string f1] (by rfl) rfl rfl (by (try simp only [List.map_toArray, List.map_cons, List.map_nil]); first | done | rfl) ?_
              refine (inP_any f1 _).mono ?_
              rintro e_ V16 ⟨rfl, hb⟩
              refine ⟨_, rfl, ?_⟩
              have B5 := Aside0.mk (blk_below B5.out hb)
              have HG := Aside0.mk (HG.out.below hb)
              have HB := Aside0.mk (below_then HB.out HBS.out hb)
              have B7 := Aside0.mk (blk_below B7.out hb)
              have B8 := Aside0.mk (blk_below B8.out hb)
              have HBS := Aside0.mk (Nat.le_trans HBS.out hb.size)
              clear hb
              refine hK.out _ _ (KS.out _ B5.out) (fun hHeld => ?_)
              clear hK K
              refine norm_ (a' := ?_) ?_ ?_
              rotate_left
              · show Act.put _ (some 24) _ = _
                simp only [Act.put, List.setIfInBounds_toArray, List.set_cons_zero, List.set_cons_succ, i64_w, i32_w]
                rfl
              exact norm_ (by simp only [putAll, Act.put, List.setIfInBounds_toArray, List.set_cons_zero, List.set_cons_succ]) (hCont (n7, n8) _ ⟨B7.out, B8.out, B5.out, HG.out, HB.out, HBS.out, LE7.out, LE8.out⟩)
        · skip
          refine event_step (v := .pointer (some ⟨W.heap.size, 0, none⟩)) (w1 := W.alloc (.cells #[.string ByteArray.empty] 115)) (by rfl) (by first | (go_simp; done) | (go_simp; rfl)) ?_
          have hb : Below W.heap.size W (W.alloc (.cells #[.string ByteArray.empty] 115)) := below_alloc (Below.refl _ _) _
          have B7 := Aside0.mk (heap_alloc_new W (.cells #[.string ByteArray.empty] 115))
          obtain ⟨n7, hn7⟩ : ∃ n, n = W.heap.size := ⟨_, rfl⟩
          have LE7 := Aside0.mk (show w.heap.size ≤ n7 by rw [hn7]; exact HBS.out)
          rw [← hn7] at B7 ⊢
          have B5 := Aside0.mk (blk_below B5.out hb)
          have HG := Aside0.mk (HG.out.below hb)
          have HB := Aside0.mk (below_then HB.out HBS.out hb)
          have HBS := Aside0.mk (Nat.le_trans HBS.out hb.size)
          clear hb
          generalize W.alloc (.cells #[.string ByteArray.empty] 115) = V17 at *
          clear hn7
          refine hK.out _ _ (KS.out _ B5.out) (fun hHeld => ?_)
          clear hK K
          refine norm_ (a' := ?_) ?_ ?_
          rotate_left
          · show Act.put _ (some 7) _ = _
            simp only [Act.put, List.setIfInBounds_toArray, List.set_cons_zero, List.set_cons_succ, i64_w, i32_w]
            rfl
          refine two_ (i := 2) (j := 7) (Ni := some 21) (Nj := some 8) #[true, true, true, true, true, false, true, false, false, false] #[true, true, false, true, true, false, true, true, false, false] rfl rfl rfl rfl (two_of HT_.out (by kernel_rfl)) (by decide) (by decide) (fun K hK => ?_) (fun K hK => ?_)
          · skip
            refine goes_ Try.func48 (by kernel_rfl) rfl #[.string f1] (by rfl) rfl rfl (by (try simp only [List.map_toArray, List.map_cons, List.map_nil]); first | done | rfl) ?_
            refine (inE_any f1 _).mono ?_
            rintro e_ V18 ⟨rfl, hb⟩
            refine ⟨_, rfl, ?_⟩
            have B5 := Aside0.mk (blk_below B5.out hb)
            have HG := Aside0.mk (HG.out.below hb)
            have HB := Aside0.mk (below_then HB.out HBS.out hb)
            have B7 := Aside0.mk (blk_below B7.out hb)
            have HBS := Aside0.mk (Nat.le_trans HBS.out hb.size)
            clear hb
            refine hK.out _ _ (KS.out _ B5.out) (fun hHeld => ?_)
            clear hK K
            refine norm_ (a' := ?_) ?_ ?_
            rotate_left
            · show Act.put _ (some 21) _ = _
              simp only [Act.put, List.setIfInBounds_toArray, List.set_cons_zero, List.set_cons_succ, i64_w, i32_w]
              rfl
            refine two_ (i := 5) (j := 7) (Ni := some 24) (Nj := some 8) #[true, true, true, true, true, true, true, false, false, false] #[true, true, true, true, true, false, true, true, false, false] rfl rfl rfl rfl (two_of HT_.out (by kernel_rfl)) (by decide) (by decide) (fun K hK => ?_) (fun K hK => ?_)
            · skip
              refine goes_ Try.func49 (by kernel_rfl) rfl #[.string f1] (by rfl) rfl rfl (by (try simp only [List.map_toArray, List.map_cons, List.map_nil]); first | done | rfl) ?_
              refine (inP_any f1 _).mono ?_
              rintro e_ V19 ⟨rfl, hb⟩
              refine ⟨_, rfl, ?_⟩
              have B5 := Aside0.mk (blk_below B5.out hb)
              have HG := Aside0.mk (HG.out.below hb)
              have HB := Aside0.mk (below_then HB.out HBS.out hb)
              have B7 := Aside0.mk (blk_below B7.out hb)
              have HBS := Aside0.mk (Nat.le_trans HBS.out hb.size)
              clear hb
              refine hK.out _ _ (KS.out _ B5.out) (fun hHeld => ?_)
              clear hK K
              refine norm_ (a' := ?_) ?_ ?_
              rotate_left
              · show Act.put _ (some 24) _ = _
                simp only [Act.put, List.setIfInBounds_toArray, List.set_cons_zero, List.set_cons_succ, i64_w, i32_w]
                rfl
              refine one_ (i := 7) (N := some 8) #[true, true, true, true, true, true, true, true, false, false] rfl rfl (one_of HT_.out (by kernel_rfl)) (by decide) (fun K hK => ?_)
              refine event_step (v := .pointer (some ⟨V19.heap.size, 0, none⟩)) (w1 := V19.alloc (.cells #[.string ByteArray.empty] 117)) (by rfl) (by first | (go_simp; done) | (go_simp; rfl)) ?_
              have hb : Below V19.heap.size V19 (V19.alloc (.cells #[.string ByteArray.empty] 117)) := below_alloc (Below.refl _ _) _
              have B8 := Aside0.mk (heap_alloc_new V19 (.cells #[.string ByteArray.empty] 117))
              obtain ⟨n8, hn8⟩ : ∃ n, n = V19.heap.size := ⟨_, rfl⟩
              have LE8 := Aside0.mk (show w.heap.size ≤ n8 by rw [hn8]; exact HBS.out)
              rw [← hn8] at B8 ⊢
              have B5 := Aside0.mk (blk_below B5.out hb)
              have HG := Aside0.mk (HG.out.below hb)
              have HB := Aside0.mk (below_then HB.out HBS.out hb)
              have B7 := Aside0.mk (blk_below B7.out hb)
              have HBS := Aside0.mk (Nat.le_trans HBS.out hb.size)
              clear hb
              generalize V19.alloc (.cells #[.string ByteArray.empty] 117) = V20 at *
              clear hn8
              refine hK.out _ _ (KS.out _ B5.out) (fun hHeld => ?_)
              clear hK K
              refine norm_ (a' := ?_) ?_ ?_
              rotate_left
              · show Act.put _ (some 8) _ = _
                simp only [Act.put, List.setIfInBounds_toArray, List.set_cons_zero, List.set_cons_succ, i64_w, i32_w]
                rfl
              exact norm_ (by simp only [putAll, Act.put, List.setIfInBounds_toArray, List.set_cons_zero, List.set_cons_succ]) (hCont (n7, n8) _ ⟨B7.out, B8.out, B5.out, HG.out, HB.out, HBS.out, LE7.out, LE8.out⟩)
            · skip
              refine event_step (v := .pointer (some ⟨V18.heap.size, 0, none⟩)) (w1 := V18.alloc (.cells #[.string ByteArray.empty] 117)) (by rfl) (by first | (go_simp; done) | (go_simp; rfl)) ?_
              have hb : Below V18.heap.size V18 (V18.alloc (.cells #[.string ByteArray.empty] 117)) := below_alloc (Below.refl _ _) _
              have B8 := Aside0.mk (heap_alloc_new V18 (.cells #[.string ByteArray.empty] 117))
              obtain ⟨n8, hn8⟩ : ∃ n, n = V18.heap.size := ⟨_, rfl⟩
              have LE8 := Aside0.mk (show w.heap.size ≤ n8 by rw [hn8]; exact HBS.out)
              rw [← hn8] at B8 ⊢
              have B5 := Aside0.mk (blk_below B5.out hb)
              have HG := Aside0.mk (HG.out.below hb)
              have HB := Aside0.mk (below_then HB.out HBS.out hb)
              have B7 := Aside0.mk (blk_below B7.out hb)
              have HBS := Aside0.mk (Nat.le_trans HBS.out hb.size)
              clear hb
              generalize V18.alloc (.cells #[.string ByteArray.empty] 117) = V21 at *
              clear hn8
              refine hK.out _ _ (KS.out _ B5.out) (fun hHeld => ?_)
              clear hK K
              refine norm_ (a' := ?_) ?_ ?_
              rotate_left
              · show Act.put _ (some 8) _ = _
                simp only [Act.put, List.setIfInBounds_toArray, List.set_cons_zero, List.set_cons_succ, i64_w, i32_w]
                rfl
              refine one_ (i := 5) (N := some 24) #[true, true, true, true, true, true, true, true, false, false] rfl rfl (one_of HT_.out (by kernel_rfl)) (by decide) (fun K hK => ?_)
              refine goes_ Try.func49 (by kernel_rfl) rfl #[.string f1] (by rfl) rfl rfl (by (try simp only [List.map_toArray, List.map_cons, List.map_nil]); first | done | rfl) ?_
              refine (inP_any f1 _).mono ?_
              rintro e_ V22 ⟨rfl, hb⟩
              refine ⟨_, rfl, ?_⟩
              have B5 := Aside0.mk (blk_below B5.out hb)
              have HG := Aside0.mk (HG.out.below hb)
              have HB := Aside0.mk (below_then HB.out HBS.out hb)
              have B7 := Aside0.mk (blk_below B7.out hb)
              have B8 := Aside0.mk (blk_below B8.out hb)
              have HBS := Aside0.mk (Nat.le_trans HBS.out hb.size)
              clear hb
              refine hK.out _ _ (KS.out _ B5.out) (fun hHeld => ?_)
              clear hK K
              refine norm_ (a' := ?_) ?_ ?_
              rotate_left
              · show Act.put _ (some 24) _ = _
                simp only [Act.put, List.setIfInBounds_toArray, List.set_cons_zero, List.set_cons_succ, i64_w, i32_w]
                rfl
              exact norm_ (by simp only [putAll, Act.put, List.setIfInBounds_toArray, List.set_cons_zero, List.set_cons_succ]) (hCont (n7, n8) _ ⟨B7.out, B8.out, B5.out, HG.out, HB.out, HBS.out, LE7.out, LE8.out⟩)
          · skip
            refine event_step (v := .pointer (some ⟨V17.heap.size, 0, none⟩)) (w1 := V17.alloc (.cells #[.string ByteArray.empty] 117)) (by rfl) (by first | (go_simp; done) | (go_simp; rfl)) ?_
            have hb : Below V17.heap.size V17 (V17.alloc (.cells #[.string ByteArray.empty] 117)) := below_alloc (Below.refl _ _) _
            have B8 := Aside0.mk (heap_alloc_new V17 (.cells #[.string ByteArray.empty] 117))
            obtain ⟨n8, hn8⟩ : ∃ n, n = V17.heap.size := ⟨_, rfl⟩
            have LE8 := Aside0.mk (show w.heap.size ≤ n8 by rw [hn8]; exact HBS.out)
            rw [← hn8] at B8 ⊢
            have B5 := Aside0.mk (blk_below B5.out hb)
            have HG := Aside0.mk (HG.out.below hb)
            have HB := Aside0.mk (below_then HB.out HBS.out hb)
            have B7 := Aside0.mk (blk_below B7.out hb)
            have HBS := Aside0.mk (Nat.le_trans HBS.out hb.size)
            clear hb
            generalize V17.alloc (.cells #[.string ByteArray.empty] 117) = V23 at *
            clear hn8
            refine hK.out _ _ (KS.out _ B5.out) (fun hHeld => ?_)
            clear hK K
            refine norm_ (a' := ?_) ?_ ?_
            rotate_left
            · show Act.put _ (some 8) _ = _
              simp only [Act.put, List.setIfInBounds_toArray, List.set_cons_zero, List.set_cons_succ, i64_w, i32_w]
              rfl
            refine one_ (i := 2) (N := some 21) #[true, true, true, true, true, false, true, true, false, false] rfl rfl (one_of HT_.out (by kernel_rfl)) (by decide) (fun K hK => ?_)
            refine goes_ Try.func48 (by kernel_rfl) rfl #[.string f1] (by rfl) rfl rfl (by (try simp only [List.map_toArray, List.map_cons, List.map_nil]); first | done | rfl) ?_
            refine (inE_any f1 _).mono ?_
            rintro e_ V24 ⟨rfl, hb⟩
            refine ⟨_, rfl, ?_⟩
            have B5 := Aside0.mk (blk_below B5.out hb)
            have HG := Aside0.mk (HG.out.below hb)
            have HB := Aside0.mk (below_then HB.out HBS.out hb)
            have B7 := Aside0.mk (blk_below B7.out hb)
            have B8 := Aside0.mk (blk_below B8.out hb)
            have HBS := Aside0.mk (Nat.le_trans HBS.out hb.size)
            clear hb
            refine hK.out _ _ (KS.out _ B5.out) (fun hHeld => ?_)
            clear hK K
            refine norm_ (a' := ?_) ?_ ?_
            rotate_left
            · show Act.put _ (some 21) _ = _
              simp only [Act.put, List.setIfInBounds_toArray, List.set_cons_zero, List.set_cons_succ, i64_w, i32_w]
              rfl
            refine one_ (i := 5) (N := some 24) #[true, true, true, true, true, true, true, true, false, false] rfl rfl (one_of HT_.out (by kernel_rfl)) (by decide) (fun K hK => ?_)
            refine goes_ Try.func49 (by kernel_rfl) rfl #[.string f1] (by rfl) rfl rfl (by (try simp only [List.map_toArray, List.map_cons, List.map_nil]); first | done | rfl) ?_
            refine (inP_any f1 _).mono ?_
            rintro e_ V25 ⟨rfl, hb⟩
            refine ⟨_, rfl, ?_⟩
            have B5 := Aside0.mk (blk_below B5.out hb)
            have HG := Aside0.mk (HG.out.below hb)
            have HB := Aside0.mk (below_then HB.out HBS.out hb)
            have B7 := Aside0.mk (blk_below B7.out hb)
            have B8 := Aside0.mk (blk_below B8.out hb)
            have HBS := Aside0.mk (Nat.le_trans HBS.out hb.size)
            clear hb
            refine hK.out _ _ (KS.out _ B5.out) (fun hHeld => ?_)
            clear hK K
            refine norm_ (a' := ?_) ?_ ?_
            rotate_left
            · show Act.put _ (some 24) _ = _
              simp only [Act.put, List.setIfInBounds_toArray, List.set_cons_zero, List.set_cons_succ, i64_w, i32_w]
              rfl
            exact norm_ (by simp only [putAll, Act.put, List.setIfInBounds_toArray, List.set_cons_zero, List.set_cons_succ]) (hCont (n7, n8) _ ⟨B7.out, B8.out, B5.out, HG.out, HB.out, HBS.out, LE7.out, LE8.out⟩)
        · skip
          refine event_step (v := .pointer (some ⟨W.heap.size, 0, none⟩)) (w1 := W.alloc (.cells #[.string ByteArray.empty] 117)) (by rfl) (by first | (go_simp; done) | (go_simp; rfl)) ?_
          have hb : Below W.heap.size W (W.alloc (.cells #[.string ByteArray.empty] 117)) := below_alloc (Below.refl _ _) _
          have B8 := Aside0.mk (heap_alloc_new W (.cells #[.string ByteArray.empty] 117))
          obtain ⟨n8, hn8⟩ : ∃ n, n = W.heap.size := ⟨_, rfl⟩
          have LE8 := Aside0.mk (show w.heap.size ≤ n8 by rw [hn8]; exact HBS.out)
          rw [← hn8] at B8 ⊢
          have B5 := Aside0.mk (blk_below B5.out hb)
          have HG := Aside0.mk (HG.out.below hb)
          have HB := Aside0.mk (below_then HB.out HBS.out hb)
          have HBS := Aside0.mk (Nat.le_trans HBS.out hb.size)
          clear hb
          generalize W.alloc (.cells #[.string ByteArray.empty] 117) = V26 at *
          clear hn8
          refine hK.out _ _ (KS.out _ B5.out) (fun hHeld => ?_)
          clear hK K
          refine norm_ (a' := ?_) ?_ ?_
          rotate_left
          · show Act.put _ (some 8) _ = _
            simp only [Act.put, List.setIfInBounds_toArray, List.set_cons_zero, List.set_cons_succ, i64_w, i32_w]
            rfl
          refine two_ (i := 2) (j := 6) (Ni := some 21) (Nj := some 7) #[true, true, true, true, true, false, false, true, false, false] #[true, true, false, true, true, false, true, true, false, false] rfl rfl rfl rfl (two_of HT_.out (by kernel_rfl)) (by decide) (by decide) (fun K hK => ?_) (fun K hK => ?_)
          · skip
            refine goes_ Try.func48 (by kernel_rfl) rfl #[.string f1] (by rfl) rfl rfl (by (try simp only [List.map_toArray, List.map_cons, List.map_nil]); first | done | rfl) ?_
            refine (inE_any f1 _).mono ?_
            rintro e_ V27 ⟨rfl, hb⟩
            refine ⟨_, rfl, ?_⟩
            have B5 := Aside0.mk (blk_below B5.out hb)
            have HG := Aside0.mk (HG.out.below hb)
            have HB := Aside0.mk (below_then HB.out HBS.out hb)
            have B8 := Aside0.mk (blk_below B8.out hb)
            have HBS := Aside0.mk (Nat.le_trans HBS.out hb.size)
            clear hb
            refine hK.out _ _ (KS.out _ B5.out) (fun hHeld => ?_)
            clear hK K
            refine norm_ (a' := ?_) ?_ ?_
            rotate_left
            · show Act.put _ (some 21) _ = _
              simp only [Act.put, List.setIfInBounds_toArray, List.set_cons_zero, List.set_cons_succ, i64_w, i32_w]
              rfl
            refine two_ (i := 5) (j := 6) (Ni := some 24) (Nj := some 7) #[true, true, true, true, true, true, false, true, false, false] #[true, true, true, true, true, false, true, true, false, false] rfl rfl rfl rfl (two_of HT_.out (by kernel_rfl)) (by decide) (by decide) (fun K hK => ?_) (fun K hK => ?_)
            · skip
              refine goes_ Try.func49 (by kernel_rfl) rfl #[.string f1] (by rfl) rfl rfl (by (try simp only [List.map_toArray, List.map_cons, List.map_nil]); first | done | rfl) ?_
              refine (inP_any f1 _).mono ?_
              rintro e_ V28 ⟨rfl, hb⟩
              refine ⟨_, rfl, ?_⟩
              have B5 := Aside0.mk (blk_below B5.out hb)
              have HG := Aside0.mk (HG.out.below hb)
              have HB := Aside0.mk (below_then HB.out HBS.out hb)
              have B8 := Aside0.mk (blk_below B8.out hb)
              have HBS := Aside0.mk (Nat.le_trans HBS.out hb.size)
              clear hb
              refine hK.out _ _ (KS.out _ B5.out) (fun hHeld => ?_)
              clear hK K
              refine norm_ (a' := ?_) ?_ ?_
              rotate_left
              · show Act.put _ (some 24) _ = _
                simp only [Act.put, List.setIfInBounds_toArray, List.set_cons_zero, List.set_cons_succ, i64_w, i32_w]
                rfl
              refine one_ (i := 6) (N := some 7) #[true, true, true, true, true, true, true, true, false, false] rfl rfl (one_of HT_.out (by kernel_rfl)) (by decide) (fun K hK => ?_)
              refine event_step (v := .pointer (some ⟨V28.heap.size, 0, none⟩)) (w1 := V28.alloc (.cells #[.string ByteArray.empty] 115)) (by rfl) (by first | (go_simp; done) | (go_simp; rfl)) ?_
              have hb : Below V28.heap.size V28 (V28.alloc (.cells #[.string ByteArray.empty] 115)) := below_alloc (Below.refl _ _) _
              have B7 := Aside0.mk (heap_alloc_new V28 (.cells #[.string ByteArray.empty] 115))
              obtain ⟨n7, hn7⟩ : ∃ n, n = V28.heap.size := ⟨_, rfl⟩
              have LE7 := Aside0.mk (show w.heap.size ≤ n7 by rw [hn7]; exact HBS.out)
              rw [← hn7] at B7 ⊢
              have B5 := Aside0.mk (blk_below B5.out hb)
              have HG := Aside0.mk (HG.out.below hb)
              have HB := Aside0.mk (below_then HB.out HBS.out hb)
              have B8 := Aside0.mk (blk_below B8.out hb)
              have HBS := Aside0.mk (Nat.le_trans HBS.out hb.size)
              clear hb
              generalize V28.alloc (.cells #[.string ByteArray.empty] 115) = V29 at *
              clear hn7
              refine hK.out _ _ (KS.out _ B5.out) (fun hHeld => ?_)
              clear hK K
              refine norm_ (a' := ?_) ?_ ?_
              rotate_left
              · show Act.put _ (some 7) _ = _
                simp only [Act.put, List.setIfInBounds_toArray, List.set_cons_zero, List.set_cons_succ, i64_w, i32_w]
                rfl
              exact norm_ (by simp only [putAll, Act.put, List.setIfInBounds_toArray, List.set_cons_zero, List.set_cons_succ]) (hCont (n7, n8) _ ⟨B7.out, B8.out, B5.out, HG.out, HB.out, HBS.out, LE7.out, LE8.out⟩)
            · skip
              refine event_step (v := .pointer (some ⟨V27.heap.size, 0, none⟩)) (w1 := V27.alloc (.cells #[.string ByteArray.empty] 115)) (by rfl) (by first | (go_simp; done) | (go_simp; rfl)) ?_
              have hb : Below V27.heap.size V27 (V27.alloc (.cells #[.string ByteArray.empty] 115)) := below_alloc (Below.refl _ _) _
              have B7 := Aside0.mk (heap_alloc_new V27 (.cells #[.string ByteArray.empty] 115))
              obtain ⟨n7, hn7⟩ : ∃ n, n = V27.heap.size := ⟨_, rfl⟩
              have LE7 := Aside0.mk (show w.heap.size ≤ n7 by rw [hn7]; exact HBS.out)
              rw [← hn7] at B7 ⊢
              have B5 := Aside0.mk (blk_below B5.out hb)
              have HG := Aside0.mk (HG.out.below hb)
              have HB := Aside0.mk (below_then HB.out HBS.out hb)
              have B8 := Aside0.mk (blk_below B8.out hb)
              have HBS := Aside0.mk (Nat.le_trans HBS.out hb.size)
              clear hb
              generalize V27.alloc (.cells #[.string ByteArray.empty] 115) = V30 at *
              clear hn7
              refine hK.out _ _ (KS.out _ B5.out) (fun hHeld => ?_)
              clear hK K
              refine norm_ (a' := ?_) ?_ ?_
              rotate_left
              · show Act.put _ (some 7) _ = _
                simp only [Act.put, List.setIfInBounds_toArray, List.set_cons_zero, List.set_cons_succ, i64_w, i32_w]
                rfl
              refine one_ (i := 5) (N := some 24) #[true, true, true, true, true, true, true, true, false, false] rfl rfl (one_of HT_.out (by kernel_rfl)) (by decide) (fun K hK => ?_)
              refine goes_ Try.func49 (by kernel_rfl) rfl #[.string f1] (by rfl) rfl rfl (by (try simp only [List.map_toArray, List.map_cons, List.map_nil]); first | done | rfl) ?_
              refine (inP_any f1 _).mono ?_
              rintro e_ V31 ⟨rfl, hb⟩
              refine ⟨_, rfl, ?_⟩
              have B5 := Aside0.mk (blk_below B5.out hb)
              have HG := Aside0.mk (HG.out.below hb)
              have HB := Aside0.mk (below_then HB.out HBS.out hb)
              have B7 := Aside0.mk (blk_below B7.out hb)
              have B8 := Aside0.mk (blk_below B8.out hb)
              have HBS := Aside0.mk (Nat.le_trans HBS.out hb.size)
              clear hb
              refine hK.out _ _ (KS.out _ B5.out) (fun hHeld => ?_)
              clear hK K
              refine norm_ (a' := ?_) ?_ ?_
              rotate_left
              · show Act.put _ (some 24) _ = _
                simp only [Act.put, List.setIfInBounds_toArray, List.set_cons_zero, List.set_cons_succ, i64_w, i32_w]
                rfl
              exact norm_ (by simp only [putAll, Act.put, List.setIfInBounds_toArray, List.set_cons_zero, List.set_cons_succ]) (hCont (n7, n8) _ ⟨B7.out, B8.out, B5.out, HG.out, HB.out, HBS.out, LE7.out, LE8.out⟩)
          · skip
            refine event_step (v := .pointer (some ⟨V26.heap.size, 0, none⟩)) (w1 := V26.alloc (.cells #[.string ByteArray.empty] 115)) (by rfl) (by first | (go_simp; done) | (go_simp; rfl)) ?_
            have hb : Below V26.heap.size V26 (V26.alloc (.cells #[.string ByteArray.empty] 115)) := below_alloc (Below.refl _ _) _
            have B7 := Aside0.mk (heap_alloc_new V26 (.cells #[.string ByteArray.empty] 115))
            obtain ⟨n7, hn7⟩ : ∃ n, n = V26.heap.size := ⟨_, rfl⟩
            have LE7 := Aside0.mk (show w.heap.size ≤ n7 by rw [hn7]; exact HBS.out)
            rw [← hn7] at B7 ⊢
            have B5 := Aside0.mk (blk_below B5.out hb)
            have HG := Aside0.mk (HG.out.below hb)
            have HB := Aside0.mk (below_then HB.out HBS.out hb)
            have B8 := Aside0.mk (blk_below B8.out hb)
            have HBS := Aside0.mk (Nat.le_trans HBS.out hb.size)
            clear hb
            generalize V26.alloc (.cells #[.string ByteArray.empty] 115) = V32 at *
            clear hn7
            refine hK.out _ _ (KS.out _ B5.out) (fun hHeld => ?_)
            clear hK K
            refine norm_ (a' := ?_) ?_ ?_
            rotate_left
            · show Act.put _ (some 7) _ = _
              simp only [Act.put, List.setIfInBounds_toArray, List.set_cons_zero, List.set_cons_succ, i64_w, i32_w]
              rfl
            refine one_ (i := 2) (N := some 21) #[true, true, true, true, true, false, true, true, false, false] rfl rfl (one_of HT_.out (by kernel_rfl)) (by decide) (fun K hK => ?_)
            refine goes_ Try.func48 (by kernel_rfl) rfl #[.string f1] (by rfl) rfl rfl (by (try simp only [List.map_toArray, List.map_cons, List.map_nil]); first | done | rfl) ?_
            refine (inE_any f1 _).mono ?_
            rintro e_ V33 ⟨rfl, hb⟩
            refine ⟨_, rfl, ?_⟩
            have B5 := Aside0.mk (blk_below B5.out hb)
            have HG := Aside0.mk (HG.out.below hb)
            have HB := Aside0.mk (below_then HB.out HBS.out hb)
            have B7 := Aside0.mk (blk_below B7.out hb)
            have B8 := Aside0.mk (blk_below B8.out hb)
            have HBS := Aside0.mk (Nat.le_trans HBS.out hb.size)
            clear hb
            refine hK.out _ _ (KS.out _ B5.out) (fun hHeld => ?_)
            clear hK K
            refine norm_ (a' := ?_) ?_ ?_
            rotate_left
            · show Act.put _ (some 21) _ = _
              simp only [Act.put, List.setIfInBounds_toArray, List.set_cons_zero, List.set_cons_succ, i64_w, i32_w]
              rfl
            refine one_ (i := 5) (N := some 24) #[true, true, true, true, true, true, true, true, false, false] rfl rfl (one_of HT_.out (by kernel_rfl)) (by decide) (fun K hK => ?_)
            refine goes_ Try.func49 (by kernel_rfl) rfl #[.string f1] (by rfl) rfl rfl (by (try simp only [List.map_toArray, List.map_cons, List.map_nil]); first | done | rfl) ?_
            refine (inP_any f1 _).mono ?_
            rintro e_ V34 ⟨rfl, hb⟩
            refine ⟨_, rfl, ?_⟩
            have B5 := Aside0.mk (blk_below B5.out hb)
            have HG := Aside0.mk (HG.out.below hb)
            have HB := Aside0.mk (below_then HB.out HBS.out hb)
            have B7 := Aside0.mk (blk_below B7.out hb)
            have B8 := Aside0.mk (blk_below B8.out hb)
            have HBS := Aside0.mk (Nat.le_trans HBS.out hb.size)
            clear hb
            refine hK.out _ _ (KS.out _ B5.out) (fun hHeld => ?_)
            clear hK K
            refine norm_ (a' := ?_) ?_ ?_
            rotate_left
            · show Act.put _ (some 24) _ = _
              simp only [Act.put, List.setIfInBounds_toArray, List.set_cons_zero, List.set_cons_succ, i64_w, i32_w]
              rfl
            exact norm_ (by simp only [putAll, Act.put, List.setIfInBounds_toArray, List.set_cons_zero, List.set_cons_succ]) (hCont (n7, n8) _ ⟨B7.out, B8.out, B5.out, HG.out, HB.out, HBS.out, LE7.out, LE8.out⟩)
      · skip
        rintro ⟨n7, n8⟩ V ⟨h1, h2, h3, h4, h5, h6, h7, h8⟩
        simp only at h1 h2 h7 h8 ⊢
        have B7 := Aside0.mk h1
        have B8 := Aside0.mk h2
        have B5 := Aside0.mk h3
        have HG := Aside0.mk h4
        have HB := Aside0.mk h5
        have NB7 := Aside0.mk h7
        have NB8 := Aside0.mk h8
        have N5 := Aside0.mk (blk_ne h3 h1 (by decide))
        have N8 := Aside0.mk (blk_ne h2 h1 (by decide))
        have N58 := Aside0.mk (blk_ne h3 h2 (by decide))
        have N78 := Aside0.mk (blk_ne h1 h2 (by decide))
        clear h1 h2 h3 h4 h5 h6 h7 h8
        simp only [putAll, Act.put, List.setIfInBounds_toArray, List.set_cons_zero, List.set_cons_succ]
        -- 8: _ := store 115 t7 t21 : 0 
        refine last_ (i := 8) (N := none) #[true, true, true, true, true, true, true, true, true, false] rfl rfl (one_of HT_.out (by kernel_rfl)) (by decide) (fun K hK => ?_)
        have s1 := (blk_cell B7.out 0).trans (rfl : _ = some (Value.string ByteArray.empty))
        have fz1 := blk_frozen B7.out 0
        refine skip_ (w1 := V.setCell ⟨n7, 0, none⟩ (.string f1)) (by rfl) rfl (by first | (go_simp; done) | (go_simp; rfl)) ?_
        have HG := Aside0.mk (HG.out.set B7.out (by decide) (by decide) 0 (.string f1))
        have B5 := Aside0.mk (blk_far (p := ⟨n7, 0, none⟩) B5.out N5.out (.string f1))
        have B8 := Aside0.mk (blk_far (p := ⟨n7, 0, none⟩) B8.out N8.out (.string f1))
        have B7 := Aside0.mk (blk_set B7.out 0 (.string f1))
        have HB := Aside0.mk (HB.out.setCell (p := ⟨n7, 0, none⟩) NB7.out (.string f1))
        generalize V.setCell ⟨n7, 0, none⟩ (.string f1) = V' at *
        refine hK.out _ _ ?_
        clear hK K s1 fz1
        -- 9: _ := store 117 t8 t24 : 0 
        refine last_ (i := 9) (N := none) #[true, true, true, true, true, true, true, true, true, true] rfl rfl (one_of HT_.out (by kernel_rfl)) (by decide) (fun K hK => ?_)
        have s1 := (blk_cell B8.out 0).trans (rfl : _ = some (Value.string ByteArray.empty))
        have fz1 := blk_frozen B8.out 0
        refine skip_ (w1 := V'.setCell ⟨n8, 0, none⟩ (.string f1)) (by rfl) rfl (by first | (go_simp; done) | (go_simp; rfl)) ?_
        have HG := Aside0.mk (HG.out.set B8.out (by decide) (by decide) 0 (.string f1))
        have B5 := Aside0.mk (blk_far (p := ⟨n8, 0, none⟩) B5.out N58.out (.string f1))
        have B7 := Aside0.mk (blk_far (p := ⟨n8, 0, none⟩) B7.out N78.out (.string f1))
        have B8 := Aside0.mk (blk_set B8.out 0 (.string f1))
        have HB := Aside0.mk (HB.out.setCell (p := ⟨n8, 0, none⟩) NB8.out (.string f1))
        generalize V'.setCell ⟨n8, 0, none⟩ (.string f1) = V2 at *
        refine hK.out _ _ ?_
        clear hK K s1 fz1
        refine done_ (done_of HT_.out (by kernel_rfl)) ?_
        have c5_0 := (blk_cell B5.out 0).trans (rfl : _ = some (Value.bool f0))
        have c5_1 := (blk_cell B5.out 1).trans (rfl : _ = some (Value.string f1))
        have c5_2 := (blk_cell B5.out 2).trans (rfl : _ = some (Value.int .i64 f2))
        have c5_3 := (blk_cell B5.out 3).trans (rfl : _ = some (Value.int .i64 f3))
        have c5_4 := (blk_cell B5.out 4).trans (rfl : _ = some (Value.string f4))
        have c5_5 := (blk_cell B5.out 5).trans (rfl : _ = some (Value.bool f5))
        have c5_6 := (blk_cell B5.out 6).trans (rfl : _ = some (Value.int .i64 f6))
        have c5_7 := (blk_cell B5.out 7).trans (rfl : _ = some (Value.int .i64 f7))
        have c7 := (blk_cell B7.out 0).trans (rfl : _ = some (Value.string f1))
        have c8 := (blk_cell B8.out 0).trans (rfl : _ = some (Value.string f1))
        clear x0 x1 x2 x3 x4 x5 x6 x7 KS K0 hHeld
        rcases HOS.out.1 with e2 | e2 | e2
        · have t0 : (f2 == 0) = true := beq_iff_eq.2 e2
          have t1 : (f2 == 1) = false := beq_eq_false_iff_ne.2 (by simp only at e2; omega)
          have t2 : (f2 == 2) = false := beq_eq_false_iff_ne.2 (by simp only at e2; omega)
          have HR := Aside0.mk (show stepOf ⟨f0, f1, f2, f3, f4, f5, f6, f7⟩ = stepTM f1 f4 f5 f3 f6 f7 by unfold stepOf; rw [if_neg (by simp only at e2 ⊢; omega), if_neg (by simp only at e2 ⊢; omega)])
          clear e2
          go_wp2_with (go_at_call 54; refine (timerSet_any f1 f4 f0 f5 f2 f3 f6 f7 HOS.out.2 w.heap.size w.heap.size _ w _ HG.out HB.out HLX.out).mono ?_; rintro e_ w9 ⟨rfl, h1, h2⟩; have H1 := Aside0.mk h1; have H2 := Aside0.mk h2; clear h1 h2)
          go_roundg (l.length - (k + 1))
          case measure => have := hq.out; omega
          case rel => exact ⟨k + 1, by omega, ⟨rfl⟩, by go_num, ⟨by rw [HTS.out, HR.out]; exact H1.out⟩, H2⟩
        · have t1 : (f2 == 1) = true := beq_iff_eq.2 e2
          have HR := Aside0.mk (show stepOf ⟨f0, f1, f2, f3, f4, f5, f6, f7⟩ = ⟨f1, ByteArray.empty, true, 0, 0⟩ by unfold stepOf; rw [if_pos e2])
          clear e2
          rcases Bool.eq_false_or_eq_true f0 with e0 | e0
          · go_wp2_with (go_at_call 50; refine (ptClear_any f1 w.heap.size w.heap.size _ w _ HG.out HB.out HLX.out).mono ?_; rintro e_ w9 ⟨rfl, h1, h2⟩; have H1 := Aside0.mk h1; have H2 := Aside0.mk h2; clear h1 h2)
            go_roundg (l.length - (k + 1))
            case measure => have := hq.out; omega
            case rel => exact ⟨k + 1, by omega, ⟨rfl⟩, by go_num, ⟨by rw [HTS.out, HR.out]; exact H1.out⟩, H2⟩
          · go_wp2_with (go_at_call 51; refine (etClear_any f1 w.heap.size w.heap.size _ w _ HG.out HB.out HLX.out).mono ?_; rintro e_ w9 ⟨rfl, h1, h2⟩; have H1 := Aside0.mk h1; have H2 := Aside0.mk h2; clear h1 h2)
            go_roundg (l.length - (k + 1))
            case measure => have := hq.out; omega
            case rel => exact ⟨k + 1, by omega, ⟨rfl⟩, by go_num, ⟨by rw [HTS.out, HR.out]; exact H1.out⟩, H2⟩
        · have t1 : (f2 == 1) = false := beq_eq_false_iff_ne.2 (by simp only at e2; omega)
          have t2 : (f2 == 2) = true := beq_iff_eq.2 e2
          have HR := Aside0.mk (show stepOf ⟨f0, f1, f2, f3, f4, f5, f6, f7⟩ = ⟨f1, f4, true, 0, 0⟩ by unfold stepOf; rw [if_neg (by simp only at e2 ⊢; omega), if_pos e2])
          clear e2
          rcases Bool.eq_false_or_eq_true f0 with e0 | e0
          · go_wp2_with (go_at_call 52; refine (ptClearTag_any f1 f4 w.heap.size w.heap.size _ w _ HG.out HB.out HLX.out).mono ?_; rintro e_ w9 ⟨rfl, h1, h2⟩; have H1 := Aside0.mk h1; have H2 := Aside0.mk h2; clear h1 h2)
            go_roundg (l.length - (k + 1))
            case measure => have := hq.out; omega
            case rel => exact ⟨k + 1, by omega, ⟨rfl⟩, by go_num, ⟨by rw [HTS.out, HR.out]; exact H1.out⟩, H2⟩
          · go_wp2_with (go_at_call 53; refine (etClearTag_any f1 f4 w.heap.size w.heap.size _ w _ HG.out HB.out HLX.out).mono ?_; rintro e_ w9 ⟨rfl, h1, h2⟩; have H1 := Aside0.mk h1; have H2 := Aside0.mk h2; clear h1 h2)
            go_roundg (l.length - (k + 1))
            case measure => have := hq.out; omega
            case rel => exact ⟨k + 1, by omega, ⟨rfl⟩, by go_num, ⟨by rw [HTS.out, HR.out]; exact H1.out⟩, H2⟩
    · have hkl : k = l.length := by omega
      subst hkl
      rw [List.take_length] at HG
      obtain ⟨v, h1, h2, h3⟩ := HG.out
      have c0 := (blk_cell h1 0).trans (rfl : _ = some v)
      have HR := Aside0.mk h2
      clear h1 h2 h3
      go_wp2
      go_ret
      exact ⟨_, rfl, HR.out, HB.out⟩
end Go.Proofs.Ytoigekmdicepnaa
