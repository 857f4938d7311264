/- The law of a window's last time. -/
import Derived.Test.YtdifeleddhefnaaDoorTx
set_option linter.unusedVariables false
set_option linter.unusedSimpArgs false
namespace Go.Proofs.YtdifeleddhefnaaDoor
open Go.RowKit Go.Proofs.YtdifeleddhefnaaDoorW.PrintWords Go.Proofs.YtdifeleddhefnaaDoorW.PrintLast Go.Proofs.YtdifeleddhefnaaDoorW.PrintMore
def wtx (g : Bool) (s e : Int) : ByteArray := if g then ⟨#[91, 42, 93]⟩ else wt (tt s) (tt e)
theorem gStr_any (w : World) : Calls Tryd.prog 19 #[.agg #[]] w fun e w' => e = .returned (.string ⟨#[91, 42, 93]⟩) ∧ Below w.heap.size w w' := by
  go_enter Tryd.func19, Tryd.ntmps19
  go_wp2
  go_ret
  exact ⟨rfl, by repeat (first | exact Below.refl _ _ | apply below_alloc | apply below_drew | apply pw_below_drewN | refine below_set ?_ (by simp) | (refine Below.setCell ?_ (by simp) _))⟩
theorem winStr_any (g : Bool) (s e : Int) (h0 : -9223372036854775 ≤ s) (h1 : s ≤ 9223372036854775) (h2 : -9223372036854775 ≤ e) (h3 : e ≤ 9223372036854775) (w : World) (htab : Tab w) : Calls Tryd.prog 12 #[.agg #[.bool g, .int .i64 s, .int .i64 e]] w fun e' w' => e' = .returned (.string (wtx g s e)) ∧ Below w.heap.size w w' := by
  cases g
  · have HT := Aside0.mk htab
    clear htab
    go_enter Tryd.func12, Tryd.ntmps12
    go_wp2_with (go_at_call 20; refine (iStr_any s e h0 h1 h2 h3 _ ?ht).mono ?_; (case ht => exact tab_below HT.out (below_alloc (Below.refl _ _) _)); rintro e_ w2 ⟨rfl, hb⟩; have HB := Aside0.mk (below_then (below_alloc (Below.refl w.heap.size w) (.cells #[.bool false, .int .i64 s, .int .i64 e] 29)) (below_alloc (Below.refl w.heap.size w) _).size hb); clear hb)
    go_ret
    exact ⟨rfl, HB.out⟩
  · go_enter Tryd.func12, Tryd.ntmps12
    go_wp2_with (go_at_call 19; refine (gStr_any _).mono ?_; rintro e_ w2 ⟨rfl, hb⟩; have HB := Aside0.mk (below_then (below_alloc (Below.refl w.heap.size w) (.cells #[.bool true, .int .i64 s, .int .i64 e] 29)) (below_alloc (Below.refl w.heap.size w) _).size hb); clear hb)
    go_ret
    exact ⟨rfl, HB.out⟩
theorem winText_any (g : Bool) (s e : Int) (h0 : -9223372036854775 ≤ s) (h1 : s ≤ 9223372036854775) (h2 : -9223372036854775 ≤ e) (h3 : e ≤ 9223372036854775) (w : World) : Calls Tryd.prog 13 #[.agg #[.bool g, .int .i64 s, .int .i64 e]] w fun e' w' => e' = .returned (.string (wtx g s e)) ∧ Below w.heap.size w w' := by
  cases g
  · exact sText_any s e h0 h1 h2 h3 w
  · go_enter Tryd.func13, Tryd.ntmps13
    go_wp2
    go_ret
    exact ⟨rfl, by repeat (first | exact Below.refl _ _ | apply below_alloc | apply below_drew | apply pw_below_drewN)⟩
theorem span_some (g : Bool) (s e : Int) : ∃ r, PFnWinLast.spec_WinIsSpan.f g s e = some r ∧ (r = true → (-9223372036854775 ≤ s ∧ s ≤ 9223372036854775) ∧ (-9223372036854775 ≤ e ∧ e ≤ 9223372036854775)) := by
  unfold PFnWinLast.spec_WinIsSpan.f
  split
  · split
    · exact ⟨_, rfl, fun h => by have := beq_iff_eq.1 h; omega⟩
    · exact ⟨_, rfl, fun h => by cases h⟩
  · split
    · split
      · exact ⟨_, rfl, fun h => by have := of_decide_eq_true h; omega⟩
      · exact ⟨_, rfl, fun h => by cases h⟩
    · exact ⟨_, rfl, fun h => by cases h⟩
theorem last_some (g : Bool) (s e : Int) (h2 : -9223372036854775 ≤ e) (h3 : e ≤ 9223372036854775) : PFnWinLast.spec_WinLast.f g s e = some (lst ⟨g, s, e⟩) := by
  unfold PFnWinLast.spec_WinLast.f lst
  cases g
  · simp only [Bool.false_eq_true, if_false]
    rw [wrap_in (by omega) (by omega)]
  · rfl
def lastLaw.T3 : Bool × List (List Nat × List Nat) := (true, [([], []), ([0], [0]), ([], []), ([2, 1], [2]), ([1, 3], [1, 3]), ([4, 3], [4]), ([5], [5]), ([6, 5, 5], [5, 6]), ([5], [5]), ([8, 7, 5], [5, 8]), ([7, 9, 5], [5, 7, 9]), ([5, 10], [5, 10]), ([11, 9], [11]), ([12, 12], [12]), ([12, 13], [12, 13]), ([14, 13, 0, 1, 2, 3, 4, 5, 6, 7, 8, 9, 10, 11, 12, 13, 14], [14])])
def lastLaw.B3 : List Nat := [0, 1, 0, 7, 15, 31, 63, 127, 63, 511, 1023, 2047, 4095, 8191, 16383, 32767]
theorem lastLaw.tab3 : rtab .any (opsOf Tryd.f4 3) = lastLaw.T3 := by kernel_rfl
theorem lastLaw.bits3 : waitsOk lastLaw.T3.2 lastLaw.B3 = true := by kernel_rfl
set_option maxRecDepth 100000 in
set_option maxHeartbeats 2000000 in
theorem lastLaw_walk (g : Bool) (s e : Int) (w : World) (htab : Tab w) : Calls Tryd.prog 4 #[.agg #[.bool g, .int .i64 s, .int .i64 e]] w fun e' w' => e' = .returned (.bool true) ∧ Below w.heap.size w w' := by
  obtain ⟨r, hr, hrt⟩ := span_some g s e
  have HT := Aside0.mk htab
  have HR := Aside0.mk hr
  clear htab hr
  cases r
  · clear hrt
    go_enter Tryd.func4, Tryd.ntmps4
    go_wp2_with (go_at_call 9; refine (PFnWinLast.spec_WinIsSpan.calls g s e false _ HR.out).mono ?_; rintro e_ w1 ⟨rfl, hb⟩; have HB := Aside0.mk (below_then (below_alloc (Below.refl w.heap.size w) (.cells #[.bool g, .int .i64 s, .int .i64 e] 26)) (below_alloc (Below.refl w.heap.size w) _).size hb); clear hb)
    go_ret
    exact ⟨rfl, HB.out⟩
  · obtain ⟨⟨h0, h1⟩, h2, h3⟩ := hrt rfl
    clear hrt
    have HI := Aside0.mk (And.intro h0 (And.intro h1 (And.intro h2 h3)))
    have HL := Aside0.mk (last_some g s e h2 h3)
    clear h0 h1 h2 h3
    have G0 := Aside0.mk (heap_alloc_new w (.cells #[.bool g, .int .i64 s, .int .i64 e] 26))
    go_enter Tryd.func4, Tryd.ntmps4
    go_wp2_with (go_at_call 9; refine (PFnWinLast.spec_WinIsSpan.calls g s e true _ HR.out).mono ?_; rintro e_ w1 ⟨rfl, hb⟩; have HB := Aside0.mk (below_drew (below_then (below_alloc (Below.refl w.heap.size w) (.cells #[.bool g, .int .i64 s, .int .i64 e] 26)) (below_alloc (Below.refl w.heap.size w) _).size hb)); have G := Aside0.mk (blk_drew (blk_below G0.out hb)); clear hb)
    have K0 : w1.drew.cell? ⟨w.heap.size, 0, none⟩ = some (.bool g) ∧ w1.drew.cell? ⟨w.heap.size, 1, none⟩ = some (.int .i64 s) ∧ w1.drew.cell? ⟨w.heap.size, 2, none⟩ = some (.int .i64 e) := ⟨(blk_cell G.out 0).trans rfl, (blk_cell G.out 1).trans rfl, (blk_cell G.out 2).trans rfl⟩
    refine start_ (n := 16) (S := fun w' => w'.cell? ⟨w.heap.size, 0, none⟩ = some (.bool g) ∧ w'.cell? ⟨w.heap.size, 1, none⟩ = some (.int .i64 s) ∧ w'.cell? ⟨w.heap.size, 2, none⟩ = some (.int .i64 e)) (ds := []) #[false, false, false, false, false, false, false, false, false, false, false, false, false, false, false, false] (by kernel_rfl) rfl rfl K0 (fun hHeld => ?_)
    refine with_tabW lastLaw.tab3 lastLaw.bits3 (fun HT_ HW_ => ?_)
    generalize w1.drew = W at *
    -- 0: t6 := load 26 t1 : 26 
    refine take_ (i := 0) (N := some 6) (v := ?_) (a' := ?_) #[true, false, false, false, false, false, false, false, false, false, false, false, false, false, false, false] rfl rfl (take_ofW HT_.out HW_.out (by kernel_rfl)) (fun _ _ _ h => h) (Or.inl ⟨by rfl, ?_⟩) hHeld ?_ ?_
    rotate_left
    · rintro w' ⟨s0, s1, s2⟩
      go_simp
      with_reducible rfl
    rotate_left
    · simp only [Act.put, List.setIfInBounds_toArray, List.set_cons_zero, List.set_cons_succ, i64_w, i32_w]
      rfl
    -- 2: t8 := load 26 t1 : 26 
    refine take_ (i := 2) (N := some 8) (v := ?_) (a' := ?_) #[true, false, true, false, false, false, false, false, false, false, false, false, false, false, false, false] rfl rfl (take_ofW HT_.out HW_.out (by kernel_rfl)) (fun _ _ _ h => h) (Or.inl ⟨by rfl, ?_⟩) hHeld ?_ ?_
    rotate_left
    · rintro w' ⟨s0, s1, s2⟩
      go_simp
      with_reducible rfl
    rotate_left
    · simp only [Act.put, List.setIfInBounds_toArray, List.set_cons_zero, List.set_cons_succ, i64_w, i32_w]
      rfl
    -- 1: t7 := call (Callee.value F10) [t6] : 2 
    refine one_ (i := 1) (N := some 7) #[true, true, true, false, false, false, false, false, false, false, false, false, false, false, false, false] rfl rfl (one_of HT_.out (by kernel_rfl)) (by decide) (fun K hK => ?_)
    refine goes_ Tryd.func10 (by kernel_rfl) rfl #[.agg #[.bool g, .int .i64 s, .int .i64 e]] (by rfl) rfl rfl (by (try simp only [List.map_toArray, List.map_cons, List.map_nil]); first | done | rfl) ?_
    refine (winMax_any ⟨g, s, e⟩ (by have := HI.out; simp only; omega) (by have := HI.out; simp only; omega) _).mono ?_
    rintro e_ V ⟨rfl, hb⟩
    refine ⟨_, rfl, ?_⟩
    have HB2 := Aside0.mk (below_then HB.out HB.out.size hb)
    refine hK.out _ _ ⟨pw_cell_below hb hHeld.1, pw_cell_below hb hHeld.2.1, pw_cell_below hb hHeld.2.2⟩ (fun hHeld => ?_)
    clear hb hK K
    refine norm_ (a' := ?_) ?_ ?_
    rotate_left
    · show Act.put _ (some 7) _ = _
      simp only [Act.put, List.setIfInBounds_toArray, List.set_cons_zero, List.set_cons_succ, i64_w, i32_w]
      rfl
    -- 3: t9 := call (Callee.value F11) [t8] : 2 
    refine one_ (i := 3) (N := some 9) #[true, true, true, true, false, false, false, false, false, false, false, false, false, false, false, false] rfl rfl (one_of HT_.out (by kernel_rfl)) (by decide) (fun K hK => ?_)
    refine goes_ Tryd.func11 (by kernel_rfl) rfl #[.agg #[.bool g, .int .i64 s, .int .i64 e]] (by rfl) rfl rfl (by (try simp only [List.map_toArray, List.map_cons, List.map_nil]); first | done | rfl) ?_
    refine (PFnWinLast.spec_WinLast.calls g s e _ _ HL.out).mono ?_
    rintro e_ V ⟨rfl, hb⟩
    refine ⟨_, rfl, ?_⟩
    have HB3 := Aside0.mk (below_then HB2.out HB2.out.size hb)
    refine hK.out _ _ ⟨pw_cell_below hb hHeld.1, pw_cell_below hb hHeld.2.1, pw_cell_below hb hHeld.2.2⟩ (fun hHeld => ?_)
    clear hb hK K
    refine norm_ (a' := ?_) ?_ ?_
    rotate_left
    · show Act.put _ (some 9) _ = _
      simp only [Act.put, List.setIfInBounds_toArray, List.set_cons_zero, List.set_cons_succ, i64_w, i32_w]
      rfl
    -- 4: t10 := binOp eql 2 t7 t9 2 : 4 
    refine pure_ (i := 4) (N := some 10) (v := ?_) (a' := ?_) #[true, true, true, true, true, false, false, false, false, false, false, false, false, false, false, false] rfl rfl (any_of HT_.out (by kernel_rfl)) (fun _ _ _ h => h) (Or.inl ⟨by rfl, ?_⟩) ?_ ?_
    rotate_left
    · intro w'
      go_simp
      with_reducible rfl
    rotate_left
    · simp only [Act.put, List.setIfInBounds_toArray, List.set_cons_zero, List.set_cons_succ, i64_w, i32_w]
      rfl
    -- 5: t11 := move t10 : 4 
    refine pure_ (i := 5) (N := some 11) (v := ?_) (a' := ?_) #[true, true, true, true, true, true, false, false, false, false, false, false, false, false, false, false] rfl rfl (any_of HT_.out (by kernel_rfl)) (fun _ _ _ h => h) (Or.inl ⟨by rfl, ?_⟩) ?_ ?_
    rotate_left
    · intro w'
      go_simp
      with_reducible rfl
    rotate_left
    · simp only [Act.put, List.setIfInBounds_toArray, List.set_cons_zero, List.set_cons_succ, i64_w, i32_w]
      rfl
    -- 6: t12 := load 26 t1 : 26  [guard (some (5, true))] 
    refine take_ (i := 6) (N := some 12) (v := ?_) (a' := ?_) #[true, true, true, true, true, true, true, false, false, false, false, false, false, false, false, false] rfl rfl (take_ofW HT_.out HW_.out (by kernel_rfl)) (fun _ _ _ h => h) (Or.inl ⟨by rfl, ?_⟩) hHeld ?_ ?_
    rotate_left
    · rintro w' ⟨s0, s1, s2⟩
      go_simp
      with_reducible rfl
    rotate_left
    · simp only [Act.put, List.setIfInBounds_toArray, List.set_cons_zero, List.set_cons_succ, i64_w, i32_w]
      rfl
    -- 8: t14 := load 26 t1 : 26  [guard (some (5, true))] 
    refine take_ (i := 8) (N := some 14) (v := ?_) (a' := ?_) #[true, true, true, true, true, true, true, false, true, false, false, false, false, false, false, false] rfl rfl (take_ofW HT_.out HW_.out (by kernel_rfl)) (fun _ _ _ h => h) (Or.inl ⟨by rfl, ?_⟩) hHeld ?_ ?_
    rotate_left
    · rintro w' ⟨s0, s1, s2⟩
      go_simp
      with_reducible rfl
    rotate_left
    · simp only [Act.put, List.setIfInBounds_toArray, List.set_cons_zero, List.set_cons_succ, i64_w, i32_w]
      rfl
    -- 7: t13 := call (Callee.value F12) [t12] : 9  [guard (some (5, true))] 
    refine one_ (i := 7) (N := some 13) #[true, true, true, true, true, true, true, true, true, false, false, false, false, false, false, false] rfl rfl (one_of HT_.out (by kernel_rfl)) (by decide) (fun K hK => ?_)
    refine goes_ Tryd.func12 (by kernel_rfl) rfl #[.agg #[.bool g, .int .i64 s, .int .i64 e]] (by rfl) rfl rfl (by (try simp only [List.map_toArray, List.map_cons, List.map_nil]); first | done | rfl) ?_
    refine (winStr_any g s e HI.out.1 HI.out.2.1 HI.out.2.2.1 HI.out.2.2.2 _ (tab_below HT.out HB3.out)).mono ?_
    rintro e_ V ⟨rfl, hb⟩
    refine ⟨_, rfl, ?_⟩
    have HB4 := Aside0.mk (below_then HB3.out HB3.out.size hb)
    refine hK.out _ _ ⟨pw_cell_below hb hHeld.1, pw_cell_below hb hHeld.2.1, pw_cell_below hb hHeld.2.2⟩ (fun hHeld => ?_)
    clear hb hK K
    refine norm_ (a' := ?_) ?_ ?_
    rotate_left
    · show Act.put _ (some 13) _ = _
      simp only [Act.put, List.setIfInBounds_toArray, List.set_cons_zero, List.set_cons_succ, i64_w, i32_w]
      rfl
    -- 9: t15 := call (Callee.value F13) [t14] : 9  [guard (some (5, true))] 
    refine one_ (i := 9) (N := some 15) #[true, true, true, true, true, true, true, true, true, true, false, false, false, false, false, false] rfl rfl (one_of HT_.out (by kernel_rfl)) (by decide) (fun K hK => ?_)
    refine goes_ Tryd.func13 (by kernel_rfl) rfl #[.agg #[.bool g, .int .i64 s, .int .i64 e]] (by rfl) rfl rfl (by (try simp only [List.map_toArray, List.map_cons, List.map_nil]); first | done | rfl) ?_
    refine (winText_any g s e HI.out.1 HI.out.2.1 HI.out.2.2.1 HI.out.2.2.2 _).mono ?_
    rintro e_ V ⟨rfl, hb⟩
    refine ⟨_, rfl, ?_⟩
    have HB5 := Aside0.mk (below_then HB4.out HB4.out.size hb)
    refine hK.out _ _ ⟨pw_cell_below hb hHeld.1, pw_cell_below hb hHeld.2.1, pw_cell_below hb hHeld.2.2⟩ (fun hHeld => ?_)
    clear hb hK K
    refine norm_ (a' := ?_) ?_ ?_
    rotate_left
    · show Act.put _ (some 15) _ = _
      simp only [Act.put, List.setIfInBounds_toArray, List.set_cons_zero, List.set_cons_succ, i64_w, i32_w]
      rfl
    -- 10: t16 := binOp eql 9 t13 t15 9 : 4  [guard (some (5, true))] 
    refine pure_ (i := 10) (N := some 16) (v := ?_) (a' := ?_) #[true, true, true, true, true, true, true, true, true, true, true, false, false, false, false, false] rfl rfl (any_of HT_.out (by kernel_rfl)) (fun _ _ _ h => h) (Or.inl ⟨by rfl, ?_⟩) ?_ ?_
    rotate_left
    · intro w'
      go_simp
      with_reducible rfl
    rotate_left
    · simp only [Act.put, List.setIfInBounds_toArray, List.set_cons_zero, List.set_cons_succ, i64_w, i32_w]
      rfl
    -- 11: t17 := pick t11 t16 false : 4 
    refine pure_ (i := 11) (N := some 17) (v := ?_) (a' := ?_) #[true, true, true, true, true, true, true, true, true, true, true, true, false, false, false, false] rfl rfl (any_of HT_.out (by kernel_rfl)) (fun _ _ _ h => h) (Or.inl ⟨by rfl, ?_⟩) ?_ ?_
    rotate_left
    · intro w'
      go_simp
      with_reducible rfl
    rotate_left
    · simp only [Act.put, List.setIfInBounds_toArray, List.set_cons_zero, List.set_cons_succ, i64_w, i32_w]
      rfl
    -- 12: t18 := move t17 : 4 
    refine pure_ (i := 12) (N := some 18) (v := ?_) (a' := ?_) #[true, true, true, true, true, true, true, true, true, true, true, true, true, false, false, false] rfl rfl (any_of HT_.out (by kernel_rfl)) (fun _ _ _ h => h) (Or.inl ⟨by rfl, ?_⟩) ?_ ?_
    rotate_left
    · intro w'
      go_simp
      with_reducible rfl
    rotate_left
    · simp only [Act.put, List.setIfInBounds_toArray, List.set_cons_zero, List.set_cons_succ, i64_w, i32_w]
      rfl
    -- 13: t19 := call (Callee.value F8) [] : 4  [guard (some (12, true))] 
    refine one_ (i := 13) (N := some 19) #[true, true, true, true, true, true, true, true, true, true, true, true, true, true, false, false] rfl rfl (one_of HT_.out (by kernel_rfl)) (by decide) (fun K hK => ?_)
    refine goes_ Tryd.func8 (by kernel_rfl) rfl #[] (by rfl) rfl rfl (by (try simp only [List.map_toArray, List.map_cons, List.map_nil]); first | done | rfl) ?_
    refine (awake_any _).mono ?_
    rintro e_ V ⟨rfl, hb⟩
    refine ⟨_, rfl, ?_⟩
    have HB6 := Aside0.mk (below_then HB5.out HB5.out.size hb)
    refine hK.out _ _ ⟨pw_cell_below hb hHeld.1, pw_cell_below hb hHeld.2.1, pw_cell_below hb hHeld.2.2⟩ (fun hHeld => ?_)
    clear hb hK K
    refine norm_ (a' := ?_) ?_ ?_
    rotate_left
    · show Act.put _ (some 19) _ = _
      simp only [Act.put, List.setIfInBounds_toArray, List.set_cons_zero, List.set_cons_succ, i64_w, i32_w]
      rfl
    -- 14: t20 := pick t18 t19 false : 4 
    refine pure_ (i := 14) (N := some 20) (v := ?_) (a' := ?_) #[true, true, true, true, true, true, true, true, true, true, true, true, true, true, true, false] rfl rfl (any_of HT_.out (by kernel_rfl)) (fun _ _ _ h => h) (Or.inl ⟨by rfl, ?_⟩) ?_ ?_
    rotate_left
    · intro w'
      go_simp
      with_reducible rfl
    rotate_left
    · simp only [Act.put, List.setIfInBounds_toArray, List.set_cons_zero, List.set_cons_succ, i64_w, i32_w]
      rfl
    -- 15: t2 := assign t20 : 4 
    refine pure_ (i := 15) (N := some 2) (v := ?_) (a' := ?_) #[true, true, true, true, true, true, true, true, true, true, true, true, true, true, true, true] rfl rfl (any_of HT_.out (by kernel_rfl)) (fun _ _ _ h => h) (Or.inl ⟨by rfl, ?_⟩) ?_ ?_
    rotate_left
    · intro w'
      go_simp
      with_reducible rfl
    rotate_left
    · simp only [Act.put, List.setIfInBounds_toArray, List.set_cons_zero, List.set_cons_succ, i64_w, i32_w]
      rfl
    refine done_ (done_of HT_.out (by kernel_rfl)) ?_
    go_wp2
    go_ret
    exact ⟨rfl, HB6.out⟩
end Go.Proofs.YtdifeleddhefnaaDoor
