/- The law of a timer's calls: what is told is what the reference tells. -/
import Derived.Test.YtoigekmdicepnaaTk
import Derived.Test.YtoigekmdicepnaaWEqStruct
set_option linter.unusedVariables false
set_option linter.unusedSimpArgs false
namespace Go.Proofs.Ytoigekmdicepnaa
open Go.RowKit Go.Proofs.YtoigekmdicepnaaW.PrintWords Go.Proofs.YtoigekmdicepnaaW.PrintLast Go.Proofs.YtoigekmdicepnaaW.PrintMore


attribute [local go_sem high] eqA48
def timerLaw.T17 : Bool × List (List Nat × List Nat) := (true, [([], []), ([], []), ([0, 1], [0, 1]), ([2], [2]), ([], []), ([4], [4]), ([3, 5], [3, 5])])
def timerLaw.B17 : List Nat := [0, 0, 3, 7, 0, 16, 63]
theorem timerLaw.tab17 : rtab .any (opsOf Try.f4 17) = timerLaw.T17 := by kernel_rfl
theorem timerLaw.bits17 : waitsOk timerLaw.T17.2 timerLaw.B17 = true := by kernel_rfl
set_option maxRecDepth 100000 in
set_option maxHeartbeats 8000000 in
theorem timerLaw_walk (A0 : Option Addr) (c0 : Nat) (l : List S44) (w : World) (hC : Kd.C PFnTimerRun.k44 w A0 l.length l) (hc : l.length ≤ c0) :
    Calls Try.prog 4 #[.slice A0 l.length c0] w fun e w' => e = .returned (.bool true) ∧ Below w.heap.size w w' := by
  obtain ⟨kf, r, hf, hfl⟩ := fits5_some l
  have HC := Aside0.mk hC
  have HF := Aside0.mk hf
  have HCC := Aside0.mk hc
  clear hC hf hc
  cases r
  · clear hfl
    go_enter Try.func4, Try.ntmps4
    go_wp2_with (go_at_call 19; refine (PFnTimerRun.laws_zzFits5.calls kf A0 c0 l false _ HC.out HCC.out HF.out).mono ?_; rintro e_ w1 ⟨rfl, hb⟩)
    go_ret
    exact ⟨rfl, hb⟩
  have HL := Aside0.mk (hfl rfl)
  clear hfl
  go_enter Try.func4, Try.ntmps4
  go_wp2_with (go_at_call 19; refine (PFnTimerRun.laws_zzFits5.calls kf A0 c0 l true _ HC.out HCC.out HF.out).mono ?_; rintro e_ w1 ⟨rfl, hb⟩; have HB0 := Aside0.mk hb; clear hb)
  go_loopg [13] l.length (fun kq v13 w' => ∃ k : Nat, k ≤ l.length ∧ Aside0 (kq = l.length - k) ∧ v13 = .int .i64 k ∧ Aside0 (∀ j, j < k → goodS (rdS l j)) ∧ Aside0 (Below w.heap.size w w'))
  case atStart => exact ⟨0, Nat.zero_le _, ⟨by simp⟩, rfl, ⟨fun j hj => absurd hj (by omega)⟩, HB0⟩
  case round =>
    clear HB0
    obtain ⟨k, hk, hq, rfl, HGD, HB⟩ := hrel
    have q1 : (l.length : Int) ≤ 2147483647 := by have := HL.out; omega
    by_cases hlt : k < l.length
    · obtain ⟨ad, ea, x0, x1, x2, x3, x4, x5, x6, x7⟩ := atS HC.out k hlt
      subst ea
      replace x0 := (HB.out.cell (World.block_lt_of_cell? w _ x0)).trans x0
      replace x1 := (HB.out.cell (World.block_lt_of_cell? w _ x1)).trans x1
      replace x2 := (HB.out.cell (World.block_lt_of_cell? w _ x2)).trans x2
      replace x3 := (HB.out.cell (World.block_lt_of_cell? w _ x3)).trans x3
      replace x4 := (HB.out.cell (World.block_lt_of_cell? w _ x4)).trans x4
      replace x5 := (HB.out.cell (World.block_lt_of_cell? w _ x5)).trans x5
      replace x6 := (HB.out.cell (World.block_lt_of_cell? w _ x6)).trans x6
      replace x7 := (HB.out.cell (World.block_lt_of_cell? w _ x7)).trans x7
      obtain ⟨⟨f0, f1, f2, f3, f4, f5, f6, f7⟩, hx⟩ : ∃ x, rdS l k = x := ⟨_, rfl⟩
      have HX := Aside0.mk hx
      rw [hx] at x0 x1 x2 x3 x4 x5 x6 x7
      clear hx
      simp only at x0 x1 x2 x3 x4 x5 x6 x7
      have HB5 := Aside0.mk (HB.out.alloc HB.out.size (.cells #[.bool f0, .string f1, .int .i64 f2, .int .i64 f3, .string f4, .bool f5, .int .i64 f6, .int .i64 f7] 44))
      by_cases c0 : f2 < 0
      · have d0_0 : decide (f2 < 0) = true := decide_eq_true (by omega)
        clear c0
        go_wp2_with (go_at_call 20; refine (timerAwake_any _).mono ?_; rintro e_ w9 ⟨rfl, hb9⟩)
        go_ret
        exact ⟨rfl, below_then HB5.out HB5.out.size hb9⟩
      · have d0_0 : decide (f2 < 0) = false := decide_eq_false (by omega)
        have C0 := Aside0.mk c0
        clear c0
        by_cases c1 : 2 < f2
        · have d1_0 : decide (2 < f2) = true := decide_eq_true (by omega)
          clear c1
          go_wp2_with (go_at_call 20; refine (timerAwake_any _).mono ?_; rintro e_ w9 ⟨rfl, hb9⟩)
          go_ret
          exact ⟨rfl, below_then HB5.out HB5.out.size hb9⟩
        · have d1_0 : decide (2 < f2) = false := decide_eq_false (by omega)
          have C1 := Aside0.mk c1
          clear c1
          by_cases c2 : f6 < 0
          · have d2_0 : decide (f6 < 0) = true := decide_eq_true (by omega)
            clear c2
            go_wp2_with (go_at_call 20; refine (timerAwake_any _).mono ?_; rintro e_ w9 ⟨rfl, hb9⟩)
            go_ret
            exact ⟨rfl, below_then HB5.out HB5.out.size hb9⟩
          · have d2_0 : decide (f6 < 0) = false := decide_eq_false (by omega)
            have C2 := Aside0.mk c2
            clear c2
            by_cases c3 : 2 < f6
            · have d3_0 : decide (2 < f6) = true := decide_eq_true (by omega)
              clear c3
              go_wp2_with (go_at_call 20; refine (timerAwake_any _).mono ?_; rintro e_ w9 ⟨rfl, hb9⟩)
              go_ret
              exact ⟨rfl, below_then HB5.out HB5.out.size hb9⟩
            · have d3_0 : decide (2 < f6) = false := decide_eq_false (by omega)
              have C3 := Aside0.mk c3
              clear c3
              by_cases c4 : 20 < (f1.size : Int)
              · have d4_0 : decide (20 < (f1.size : Int)) = true := decide_eq_true (by omega)
                have d4_1 : decide (20 < f1.size) = true := decide_eq_true (by omega)
                clear c4
                go_wp2_with (go_at_call 20; refine (timerAwake_any _).mono ?_; rintro e_ w9 ⟨rfl, hb9⟩)
                go_ret
                exact ⟨rfl, below_then HB5.out HB5.out.size hb9⟩
              · have d4_0 : decide (20 < (f1.size : Int)) = false := decide_eq_false (by omega)
                have d4_1 : decide (20 < f1.size) = false := decide_eq_false (by omega)
                clear c4
                by_cases c5 : 20 < (f4.size : Int)
                · have d5_0 : decide (20 < (f4.size : Int)) = true := decide_eq_true (by omega)
                  have d5_1 : decide (20 < f4.size) = true := decide_eq_true (by omega)
                  clear c5
                  go_wp2_with (go_at_call 20; refine (timerAwake_any _).mono ?_; rintro e_ w9 ⟨rfl, hb9⟩)
                  go_ret
                  exact ⟨rfl, below_then HB5.out HB5.out.size hb9⟩
                · have d5_0 : decide (20 < (f4.size : Int)) = false := decide_eq_false (by omega)
                  have d5_1 : decide (20 < f4.size) = false := decide_eq_false (by omega)
                  clear c5
                  by_cases c6 : f3 < -10000000000000000
                  · have d6_0 : decide (f3 < -10000000000000000) = true := decide_eq_true (by omega)
                    clear c6
                    go_wp2_with (go_at_call 20; refine (timerAwake_any _).mono ?_; rintro e_ w9 ⟨rfl, hb9⟩)
                    go_ret
                    exact ⟨rfl, below_then HB5.out HB5.out.size hb9⟩
                  · have d6_0 : decide (f3 < -10000000000000000) = false := decide_eq_false (by omega)
                    clear c6
                    by_cases c7 : 10000000000000000 < f3
                    · have d7_0 : decide (10000000000000000 < f3) = true := decide_eq_true (by omega)
                      clear c7
                      go_wp2_with (go_at_call 20; refine (timerAwake_any _).mono ?_; rintro e_ w9 ⟨rfl, hb9⟩)
                      go_ret
                      exact ⟨rfl, below_then HB5.out HB5.out.size hb9⟩
                    · have d7_0 : decide (10000000000000000 < f3) = false := decide_eq_false (by omega)
                      clear c7
                      by_cases c8 : f7 < -10000000000000000
                      · have d8_0 : decide (f7 < -10000000000000000) = true := decide_eq_true (by omega)
                        clear c8
                        go_wp2_with (go_at_call 20; refine (timerAwake_any _).mono ?_; rintro e_ w9 ⟨rfl, hb9⟩)
                        go_ret
                        exact ⟨rfl, below_then HB5.out HB5.out.size hb9⟩
                      · have d8_0 : decide (f7 < -10000000000000000) = false := decide_eq_false (by omega)
                        clear c8
                        by_cases c9 : 10000000000000000 < f7
                        · have d9_0 : decide (10000000000000000 < f7) = true := decide_eq_true (by omega)
                          clear c9
                          go_wp2_with (go_at_call 20; refine (timerAwake_any _).mono ?_; rintro e_ w9 ⟨rfl, hb9⟩)
                          go_ret
                          exact ⟨rfl, below_then HB5.out HB5.out.size hb9⟩
                        · have d9_0 : decide (10000000000000000 < f7) = false := decide_eq_false (by omega)
                          clear c9
                          go_wp2
                          go_roundg (l.length - (k + 1))
                          case measure => have := hq.out; omega
                          case rel => exact ⟨k + 1, by omega, ⟨rfl⟩, by go_num, ⟨fun j hj => by
                            by_cases hjk : j < k
                            · exact HGD.out j hjk
                            · obtain rfl : j = k := by omega
                              rw [HX.out]; exact ⟨by have := C0.out; simp only; omega, by have := C1.out; simp only; omega, by have := C2.out; simp only; omega, by have := C3.out; simp only; omega⟩⟩, HB5⟩
    · have hkl : k = l.length := by omega
      subst hkl
      by_cases h12 : 12 < l.length
      · have d1 : decide (12 < (l.length : Int)) = true := decide_eq_true (by omega)
        have d2 : decide (12 < l.length) = true := decide_eq_true h12
        clear h12
        go_wp2_with (go_at_call 20; refine (timerAwake_any _).mono ?_; rintro e_ w9 ⟨rfl, hb9⟩)
        go_ret
        exact ⟨rfl, below_then HB.out HB.out.size hb9⟩
      · have d1 : decide (12 < (l.length : Int)) = false := decide_eq_false (by omega)
        have d2 : decide (12 < l.length) = false := decide_eq_false h12
        have HL2 := Aside0.mk (show l.length ≤ 1000 by omega)
        have HOK := Aside0.mk (fun j hj => goodS_ok (HGD.out j hj))
        have HC1 := Aside0.mk (Kd.C_below HC.out HB.out)
        have u1 : ((l.length : Int) != (l.length : Int)) = false := by simp
        clear h12
        go_wp2_with (go_at_call 21; refine (timerRun_sl A0 c0 l _ HC1.out HOK.out HL2.out).mono ?_; rintro e_ w2 ⟨A2, c2, rfl, hC2, hb⟩; have HC2 := Aside0.mk hC2; have HB2 := Aside0.mk (below_then HB.out HB.out.size hb); have HBW2 := Aside0.mk (Below.refl w2.heap.size w2); have HC3 := Aside0.mk (Kd.C_below HC1.out hb); clear hb hC2)
        go_loopg [82] l.length (fun kq v82 w' => ∃ k : Nat, k ≤ l.length ∧ Aside0 (kq = l.length - k) ∧ v82 = .int .i64 k ∧ Aside0 (Below w2.heap.size w2 w'))
        case atStart => exact ⟨0, Nat.zero_le _, ⟨by simp⟩, rfl, HBW2⟩
        case round =>
          clear HBW2
          obtain ⟨k, hk2, hq2, rfl, HW1⟩ := hrel
          by_cases hlt2 : k < l.length
          · obtain ⟨ad, ea, x0, x1, x2, x3, x4, x5, x6, x7⟩ := atS HC3.out k hlt2
            subst ea
            obtain ⟨ad2, ea2, y0, y1, y2, y3, y4⟩ := atTM HC2.out k hlt2
            subst ea2
            rw [rdTM_map l k hlt2] at y0 y1 y2 y3 y4
            have HTM := Aside0.mk (timerMap_some (rdS l k) (HOK.out k hlt2))
            obtain ⟨x, hx⟩ : ∃ x, stepOf (rdS l k) = x := ⟨_, rfl⟩
            rw [hx] at y0 y1 y2 y3 y4 HTM
            clear hx
            obtain ⟨⟨f0, f1, f2, f3, f4, f5, f6, f7⟩, hx⟩ : ∃ x, rdS l k = x := ⟨_, rfl⟩
            rw [hx] at x0 x1 x2 x3 x4 x5 x6 x7 HTM
            clear hx
            simp only at x0 x1 x2 x3 x4 x5 x6 x7 HTM
            replace x0 := (HW1.out.cell (World.block_lt_of_cell? w2 _ x0)).trans x0
            replace x1 := (HW1.out.cell (World.block_lt_of_cell? w2 _ x1)).trans x1
            replace x2 := (HW1.out.cell (World.block_lt_of_cell? w2 _ x2)).trans x2
            replace x3 := (HW1.out.cell (World.block_lt_of_cell? w2 _ x3)).trans x3
            replace x4 := (HW1.out.cell (World.block_lt_of_cell? w2 _ x4)).trans x4
            replace x5 := (HW1.out.cell (World.block_lt_of_cell? w2 _ x5)).trans x5
            replace x6 := (HW1.out.cell (World.block_lt_of_cell? w2 _ x6)).trans x6
            replace x7 := (HW1.out.cell (World.block_lt_of_cell? w2 _ x7)).trans x7
            replace y0 := (HW1.out.cell (World.block_lt_of_cell? w2 _ y0)).trans y0
            replace y1 := (HW1.out.cell (World.block_lt_of_cell? w2 _ y1)).trans y1
            replace y2 := (HW1.out.cell (World.block_lt_of_cell? w2 _ y2)).trans y2
            replace y3 := (HW1.out.cell (World.block_lt_of_cell? w2 _ y3)).trans y3
            replace y4 := (HW1.out.cell (World.block_lt_of_cell? w2 _ y4)).trans y4
            have Y := Aside0.mk (And.intro y0 (And.intro y1 (And.intro y2 (And.intro y3 y4))))
            clear y0 y1 y2 y3 y4
            have NX := Aside0.mk (heap_alloc_new wr (.cells #[.bool f0, .string f1, .int .i64 f2, .int .i64 f3, .string f4, .bool f5, .int .i64 f6, .int .i64 f7] 44))
            have HW1 := Aside0.mk (below_drew (HW1.out.alloc HW1.out.size (.cells #[.bool f0, .string f1, .int .i64 f2, .int .i64 f3, .string f4, .bool f5, .int .i64 f6, .int .i64 f7] 44)))
            have ST : ∀ {a : Addr} {v : Value}, wr.cell? a = some v → (wr.alloc (.cells #[.bool f0, .string f1, .int .i64 f2, .int .i64 f3, .string f4, .bool f5, .int .i64 f6, .int .i64 f7] 44)).drew.cell? a = some v := fun {a v} h => (Below.cell (below_drew (below_alloc (Below.refl wr.heap.size wr) _)) (World.block_lt_of_cell? wr _ h)).trans h
            have K0 := And.intro (ST Y.out.1) (And.intro (ST Y.out.2.1) (And.intro (ST Y.out.2.2.1) (And.intro (ST Y.out.2.2.2.1) (And.intro (ST Y.out.2.2.2.2) (And.intro ((blk_cell (blk_drew NX.out) 0).trans (rfl : _ = some (Value.bool f0))) (And.intro ((blk_cell (blk_drew NX.out) 1).trans (rfl : _ = some (Value.string f1))) (And.intro ((blk_cell (blk_drew NX.out) 2).trans (rfl : _ = some (Value.int .i64 f2))) (And.intro ((blk_cell (blk_drew NX.out) 3).trans (rfl : _ = some (Value.int .i64 f3))) (And.intro ((blk_cell (blk_drew NX.out) 4).trans (rfl : _ = some (Value.string f4))) (And.intro ((blk_cell (blk_drew NX.out) 5).trans (rfl : _ = some (Value.bool f5))) (And.intro ((blk_cell (blk_drew NX.out) 6).trans (rfl : _ = some (Value.int .i64 f6))) ((blk_cell (blk_drew NX.out) 7).trans (rfl : _ = some (Value.int .i64 f7))))))))))))))
            have HK0 := Aside0.mk K0
            clear K0 NX Y ST
            have q5 : (l.length : Int) ≤ 2147483647 := by have := HL.out; omega
            go_wp2_with fail
            refine start_ (n := 7) (S := fun w' => w'.cell? (ad2.add (k * 5)) = some (.string x.f) ∧ w'.cell? ⟨(ad2.add (k * 5)).block, (ad2.add (k * 5)).off + 1, none⟩ = some (.string x.t) ∧ w'.cell? ⟨(ad2.add (k * 5)).block, (ad2.add (k * 5)).off + 2, none⟩ = some (.bool x.c) ∧ w'.cell? ⟨(ad2.add (k * 5)).block, (ad2.add (k * 5)).off + 3, none⟩ = some (.int .i64 x.fi) ∧ w'.cell? ⟨(ad2.add (k * 5)).block, (ad2.add (k * 5)).off + 4, none⟩ = some (.int .i64 x.ho) ∧ w'.cell? ⟨wr.heap.size, 0, none⟩ = some (.bool f0) ∧ w'.cell? ⟨wr.heap.size, 1, none⟩ = some (.string f1) ∧ w'.cell? ⟨wr.heap.size, 2, none⟩ = some (.int .i64 f2) ∧ w'.cell? ⟨wr.heap.size, 3, none⟩ = some (.int .i64 f3) ∧ w'.cell? ⟨wr.heap.size, 4, none⟩ = some (.string f4) ∧ w'.cell? ⟨wr.heap.size, 5, none⟩ = some (.bool f5) ∧ w'.cell? ⟨wr.heap.size, 6, none⟩ = some (.int .i64 f6) ∧ w'.cell? ⟨wr.heap.size, 7, none⟩ = some (.int .i64 f7)) (ds := []) #[false, false, false, false, false, false, false] (by kernel_rfl) rfl rfl HK0.out (fun hHeld => ?_)
            refine with_tabW timerLaw.tab17 timerLaw.bits17 (fun HT_ HW_ => ?_)
            generalize hWW : (wr.alloc (.cells #[.bool f0, .string f1, .int .i64 f2, .int .i64 f3, .string f4, .bool f5, .int .i64 f6, .int .i64 f7] 44)).drew = W at *
            -- 0: t87 := move t5 : 45 
            refine pure_ (i := 0) (N := some 87) (v := ?_) (a' := ?_) #[true, false, false, false, false, false, false] rfl rfl (any_of HT_.out (by kernel_rfl)) (fun _ _ _ h => h) (Or.inl ⟨by rfl, ?_⟩) ?_ ?_
            rotate_left
            · intro w'
              go_simp
              with_reducible rfl
            rotate_left
            · simp only [Act.put, List.setIfInBounds_toArray, List.set_cons_zero, List.set_cons_succ, i64_w, i32_w]
              rfl
            -- 1: t88 := move t6 : 3 
            refine pure_ (i := 1) (N := some 88) (v := ?_) (a' := ?_) #[true, true, false, false, false, false, false] rfl rfl (any_of HT_.out (by kernel_rfl)) (fun _ _ _ h => h) (Or.inl ⟨by rfl, ?_⟩) ?_ ?_
            rotate_left
            · intro w'
              go_simp
              with_reducible rfl
            rotate_left
            · simp only [Act.put, List.setIfInBounds_toArray, List.set_cons_zero, List.set_cons_succ, i64_w, i32_w]
              rfl
            -- 2: t89 := indexAddr 45 t87 t88 : 0 
            refine pure_ (i := 2) (N := some 89) (v := ?_) (a' := ?_) #[true, true, true, false, false, false, false] rfl rfl (any_of HT_.out (by kernel_rfl)) (fun _ _ _ h => h) (Or.inl ⟨by rfl, ?_⟩) ?_ ?_
            rotate_left
            · intro w'
              go_simp
              with_reducible rfl
            rotate_left
            · simp only [Act.put, List.setIfInBounds_toArray, List.set_cons_zero, List.set_cons_succ, i64_w, i32_w]
              rfl
            -- 3: t90 := load 48 t89 : 48 
            refine take_ (i := 3) (N := some 90) (v := ?_) (a' := ?_) #[true, true, true, true, false, false, false] rfl rfl (take_ofW HT_.out HW_.out (by kernel_rfl)) (fun _ _ _ h => h) (Or.inl ⟨by rfl, ?_⟩) hHeld ?_ ?_
            rotate_left
            · rintro w' ⟨s0, s1, s2, s3, s4, s5, s6, s7, s8, s9, s10, s11, s12⟩
              go_simp
              with_reducible rfl
            rotate_left
            · simp only [Act.put, List.setIfInBounds_toArray, List.set_cons_zero, List.set_cons_succ, i64_w, i32_w]
              rfl
            -- 4: t91 := load 44 t7 : 44 
            refine take_ (i := 4) (N := some 91) (v := ?_) (a' := ?_) #[true, true, true, true, true, false, false] rfl rfl (take_ofW HT_.out HW_.out (by kernel_rfl)) (fun _ _ _ h => h) (Or.inl ⟨by rfl, ?_⟩) hHeld ?_ ?_
            rotate_left
            · rintro w' ⟨s0, s1, s2, s3, s4, s5, s6, s7, s8, s9, s10, s11, s12⟩
              go_simp
              with_reducible rfl
            rotate_left
            · simp only [Act.put, List.setIfInBounds_toArray, List.set_cons_zero, List.set_cons_succ, i64_w, i32_w]
              rfl
            -- 5: t92 := call (Callee.value F22) [t91] : 48 
            refine one_ (i := 5) (N := some 92) #[true, true, true, true, true, true, false] rfl rfl (one_of HT_.out (by kernel_rfl)) (by decide) (fun K hK => ?_)
            refine goes_ Try.func22 (by kernel_rfl) rfl #[.agg #[.bool f0, .string f1, .int .i64 f2, .int .i64 f3, .string f4, .bool f5, .int .i64 f6, .int .i64 f7]] (by rfl) rfl rfl (by (try simp only [List.map_toArray, List.map_cons, List.map_nil]); first | done | rfl) ?_
            refine (PFnTimerRun.laws_timerMap.calls 1 f0 f1 f2 f3 f4 f5 f6 f7 _ _ _ _ _ _ HTM.out).mono ?_
            rintro e_ V ⟨rfl, hb⟩
            refine ⟨_, rfl, ?_⟩
            have HW2 := Aside0.mk (below_then HW1.out HW1.out.size hb)
            refine hK.out _ _ ⟨pw_cell_below hb hHeld.1, pw_cell_below hb hHeld.2.1, pw_cell_below hb hHeld.2.2.1, pw_cell_below hb hHeld.2.2.2.1, pw_cell_below hb hHeld.2.2.2.2.1, pw_cell_below hb hHeld.2.2.2.2.2.1, pw_cell_below hb hHeld.2.2.2.2.2.2.1, pw_cell_below hb hHeld.2.2.2.2.2.2.2.1, pw_cell_below hb hHeld.2.2.2.2.2.2.2.2.1, pw_cell_below hb hHeld.2.2.2.2.2.2.2.2.2.1, pw_cell_below hb hHeld.2.2.2.2.2.2.2.2.2.2.1, pw_cell_below hb hHeld.2.2.2.2.2.2.2.2.2.2.2.1, pw_cell_below hb hHeld.2.2.2.2.2.2.2.2.2.2.2.2⟩ (fun hHeld => ?_)
            clear hb hK K
            refine norm_ (a' := ?_) ?_ ?_
            rotate_left
            · show Act.put _ (some 92) _ = _
              simp only [Act.put, List.setIfInBounds_toArray, List.set_cons_zero, List.set_cons_succ, i64_w, i32_w]
              rfl
            -- 6: t93 := binOp neq 48 t90 t92 48 : 4 
            refine pure_ (i := 6) (N := some 93) (v := ?_) (a' := ?_) #[true, true, true, true, true, true, true] rfl rfl (any_of HT_.out (by kernel_rfl)) (fun _ _ _ h => h) (Or.inl ⟨by rfl, ?_⟩) ?_ ?_
            rotate_left
            · intro w'
              go_simp
              with_reducible rfl
            rotate_left
            · simp only [Act.put, List.setIfInBounds_toArray, List.set_cons_zero, List.set_cons_succ, i64_w, i32_w]
              rfl
            refine done_ (done_of HT_.out (by kernel_rfl)) ?_
            go_wp2
            go_roundg (l.length - (k + 1))
            case measure => have := hq2.out; omega
            case rel => exact ⟨k + 1, by omega, ⟨rfl⟩, by go_num, HW2⟩
          · go_wp2_with (go_at_call 20; refine (timerAwake_any _).mono ?_; rintro e_ w9 ⟨rfl, hb9⟩)
            go_ret
            exact ⟨rfl, below_then HB2.out HB2.out.size (below_then HW1.out HW1.out.size hb9)⟩
end Go.Proofs.Ytoigekmdicepnaa
