/- Contracts and plain laws, several texts in one. -/
import Derived.Test.YtgdbeiadlgkedaaDoorMDecode3
set_option linter.unusedVariables false
set_option linter.unusedSimpArgs false
namespace Go.Proofs.YtgdbeiadlgkedaaDoor.PFnEncode
open Go.RowKit Go.Proofs.YtgdbeiadlgkedaaDoorW.PrintWords Go.Proofs.YtgdbeiadlgkedaaDoorW.PrintLast Go.Proofs.YtgdbeiadlgkedaaDoorW.PrintMore
def laws_codPane.f (a0_0 : Int) (a0_1 : Bool) (a0_2 : Bool) (a0_3 : Int) (a0_4 : Int) : Option (Int × Bool × Bool × Int × Int) := some (a0_0, a0_1, a0_2, a0_3, a0_4)
set_option maxHeartbeats 8000000 in
set_option maxRecDepth 100000 in
theorem laws_codPane.calls (a0_0 : Int) (a0_1 : Bool) (a0_2 : Bool) (a0_3 : Int) (a0_4 : Int) (r1 : Int) (r2 : Bool) (r3 : Bool) (r4 : Int) (r5 : Int) (w : World) (h : laws_codPane.f a0_0 a0_1 a0_2 a0_3 a0_4 = some (r1, r2, r3, r4, r5)) :
    Calls Tryd.prog 29 #[.agg #[.int .i64 a0_0, .bool a0_1, .bool a0_2, .int .i64 a0_3, .int .i64 a0_4]] w fun e w' => e = .returned (.agg #[.int .i64 r1, .bool r2, .bool r3, .int .i64 r4, .int .i64 r5]) ∧ Below w.heap.size w w' := by
  have hu24 := Tryd.underlying24
  have hu35 := Tryd.underlying35
  have HB := Aside0.mk (Below.refl w.heap.size w)
  have H : (some (a0_0, a0_1, a0_2, a0_3, a0_4)) = some (r1, r2, r3, r4, r5) := h
  clear h
  simp only [Option.some.injEq, Prod.mk.injEq] at H
  obtain ⟨rfl, rfl, rfl, rfl, rfl⟩ := H
  go_enter Tryd.func29, Tryd.ntmps29
  go_wp2_with (first | ((with_reducible refine gate_dst (N := 1) rfl ?_); refine box_event ?hg (N := 1) ?hd (cs := #[.int .i64 a0_0, .bool a0_1, .bool a0_2, .int .i64 a0_3, .int .i64 a0_4]) (t := 24) ?hr ?_; (case hd => rfl); (case hg => rfl); (case hr => first | (go_simp; done) | (go_simp; rfl)); intro gb120 hg w2 hbox hb; have n0_ := Aside0.mk (below_step (by repeat (first | (with_reducible first | exact HB.out | apply below_alloc | apply pw_below_drewN | apply below_drew1) | exact HB.out)) hb); have n1_ := Aside0.mk (hbox); have n2_ := Aside0.mk ((by rw [hg]; exact (below_size (by repeat (first | (with_reducible first | exact HB.out | apply below_alloc | apply pw_below_drewN | apply below_drew1) | exact HB.out))) : w.heap.size ≤ gb120)); have n3_ := Aside0.mk ((by rw [hg]; exact (below_size (by repeat (first | (with_reducible first | exact HB.out | apply below_alloc | apply pw_below_drewN | apply below_drew1) | exact HB.out))) : w.heap.size ≤ gb120)); clear HB; have HB := n0_; have BK120 := n1_; have GW120 := n2_; have GE120 := n3_; clear n0_ n1_ n2_ n3_; clear hb hbox hg) | ((with_reducible refine gate_dst (N := 2) rfl ?_); refine box_event ?hg (N := 2) ?hd (cs := #[.int .i64 0, .bool false, .bool false, .int .i64 0, .int .i64 0]) (t := 35) ?hr ?_; (case hd => rfl); (case hg => rfl); (case hr => first | (go_simp; done) | (go_simp; rfl)); intro gb121 hg w3 hbox hb; have n0_ := Aside0.mk (blk_below (g := gb120) (o := .cells #[.int .i64 a0_0, .bool a0_1, .bool a0_2, .int .i64 a0_3, .int .i64 a0_4] 24 (0, 0)) (by (with_reducible repeat (first | refine blk_drewN ?_ _ | refine blk_drew ?_ | refine blk_alloc ?_ _)); exact BK120.out) hb); have n1_ := Aside0.mk (below_step (by repeat (first | (with_reducible first | exact HB.out | apply below_alloc | apply pw_below_drewN | apply below_drew1 | refine below_set ?_ GE120.out) | exact HB.out)) hb); have n2_ := Aside0.mk (hbox); have n3_ := Aside0.mk ((by rw [hg]; exact (below_size (by repeat (first | (with_reducible first | exact HB.out | apply below_alloc | apply pw_below_drewN | apply below_drew1 | refine below_set ?_ GE120.out) | exact HB.out))) : w.heap.size ≤ gb121)); have n4_ := Aside0.mk ((by rw [hg]; exact (below_size (by repeat (first | (with_reducible first | exact HB.out | apply below_alloc | apply pw_below_drewN | apply below_drew1 | refine below_set ?_ GE120.out) | exact HB.out))) : w.heap.size ≤ gb121)); have n5_ := Aside0.mk ((by rw [hg]; exact Nat.ne_of_lt (blk_lt (g := gb120) (o := .cells #[.int .i64 a0_0, .bool a0_1, .bool a0_2, .int .i64 a0_3, .int .i64 a0_4] 24 (0, 0)) (by (with_reducible repeat (first | refine blk_drewN ?_ _ | refine blk_drew ?_ | refine blk_alloc ?_ _)); exact BK120.out)) : gb120 ≠ gb121)); have n6_ := Aside0.mk ((by rw [hg]; exact Nat.ne_of_gt (blk_lt (g := gb120) (o := .cells #[.int .i64 a0_0, .bool a0_1, .bool a0_2, .int .i64 a0_3, .int .i64 a0_4] 24 (0, 0)) (by (with_reducible repeat (first | refine blk_drewN ?_ _ | refine blk_drew ?_ | refine blk_alloc ?_ _)); exact BK120.out)) : gb121 ≠ gb120)); clear BK120; clear HB; have BK120 := n0_; have HB := n1_; have BK121 := n2_; have GW121 := n3_; have GE121 := n4_; have NB120_121 := n5_; have NB121_120 := n6_; clear n0_ n1_ n2_ n3_ n4_ n5_ n6_; clear hb hbox hg; have hnb4 := NB120_121.out; have hnc4 := NB121_120.out; have hcz5_0 : w3.cell? ⟨gb120, 0, none⟩ = some (.int .i64 a0_0) := (blk_cell BK120.out 0).trans rfl; have hcz5_1 : w3.cell? ⟨gb120, 1, none⟩ = some (.bool a0_1) := (blk_cell BK120.out 1).trans rfl; have hcz5_2 : w3.cell? ⟨gb120, 2, none⟩ = some (.bool a0_2) := (blk_cell BK120.out 2).trans rfl; have hcz5_3 : w3.cell? ⟨gb120, 3, none⟩ = some (.int .i64 a0_3) := (blk_cell BK120.out 3).trans rfl; have hcz5_4 : w3.cell? ⟨gb120, 4, none⟩ = some (.int .i64 a0_4) := (blk_cell BK120.out 4).trans rfl; have hfz5_0 := blk_frozen BK120.out 0; have hfz5_1 := blk_frozen BK120.out 1; have hfz5_2 := blk_frozen BK120.out 2; have hfz5_3 := blk_frozen BK120.out 3; have hfz5_4 := blk_frozen BK120.out 4; have hcz6_0 : w3.cell? ⟨gb121, 0, none⟩ = some (.int .i64 0) := (blk_cell BK121.out 0).trans rfl; have hcz6_1 : w3.cell? ⟨gb121, 1, none⟩ = some (.bool false) := (blk_cell BK121.out 1).trans rfl; have hcz6_2 : w3.cell? ⟨gb121, 2, none⟩ = some (.bool false) := (blk_cell BK121.out 2).trans rfl; have hcz6_3 : w3.cell? ⟨gb121, 3, none⟩ = some (.int .i64 0) := (blk_cell BK121.out 3).trans rfl; have hcz6_4 : w3.cell? ⟨gb121, 4, none⟩ = some (.int .i64 0) := (blk_cell BK121.out 4).trans rfl; have hfz6_0 := blk_frozen BK121.out 0; have hfz6_1 := blk_frozen BK121.out 1; have hfz6_2 := blk_frozen BK121.out 2; have hfz6_3 := blk_frozen BK121.out 3; have hfz6_4 := blk_frozen BK121.out 4))
  refine bodyPost_ret (results_cell_row rfl _ _ gb121 35 #[.int .i64 a0_0, .bool a0_1, .bool a0_2, .int .i64 a0_3, .int .i64 a0_4] (0, 0) _ rfl (by (with_reducible repeat (first | refine blk_drewN ?_ _ | refine blk_drew ?_ | refine blk_alloc ?_ _)); refine blk_put (cs := #[.int .i64 a0_0, .bool a0_1, .bool a0_2, .int .i64 a0_3, .int .i64 0]) ?_ 4 _ rfl; (with_reducible repeat (first | refine blk_drewN ?_ _ | refine blk_drew ?_ | refine blk_alloc ?_ _)); refine blk_put (cs := #[.int .i64 a0_0, .bool a0_1, .bool a0_2, .int .i64 0, .int .i64 0]) ?_ 3 _ rfl; (with_reducible repeat (first | refine blk_drewN ?_ _ | refine blk_drew ?_ | refine blk_alloc ?_ _)); refine blk_put (cs := #[.int .i64 a0_0, .bool a0_1, .bool false, .int .i64 0, .int .i64 0]) ?_ 2 _ rfl; (with_reducible repeat (first | refine blk_drewN ?_ _ | refine blk_drew ?_ | refine blk_alloc ?_ _)); refine blk_put (cs := #[.int .i64 a0_0, .bool false, .bool false, .int .i64 0, .int .i64 0]) ?_ 1 _ rfl; (with_reducible repeat (first | refine blk_drewN ?_ _ | refine blk_drew ?_ | refine blk_alloc ?_ _)); refine blk_put (cs := #[.int .i64 0, .bool false, .bool false, .int .i64 0, .int .i64 0]) ?_ 0 _ rfl; (with_reducible repeat (first | refine blk_drewN ?_ _ | refine blk_drew ?_ | refine blk_alloc ?_ _)); exact BK121.out) Tryd.underlying35 rfl (by kernel_rfl)) rfl ?_
  exact ⟨by first | rfl | (simp [errW_none, errW_some] <;> rfl) | (simp [*, errW_none, errW_some] <;> rfl), by repeat (first | (with_reducible first | exact HB.out | apply below_alloc | apply pw_below_drewN | apply below_drew1 | refine below_set ?_ GE120.out | refine below_set ?_ GE121.out) | exact HB.out)⟩
def laws_codOf.f (a0_0 : Int) (a0_1 : Bool) (a0_2 : Int) (a0_3 : Int) (a0_4 : Int) (a0_5 : ByteArray) (a0_6 : Int) (a0_7 : Bool) (a0_8 : Bool) (a0_9 : Int) (a0_10 : Int) : Option (Int × Bool × Int × Int × Int × ByteArray × Int × Bool × Bool × Int × Int) := (laws_codPane.f a0_6 a0_7 a0_8 a0_9 a0_10).bind fun bt124 => (some (a0_0, a0_1, a0_2, a0_3, a0_4, a0_5, bt124.1, bt124.2.1, bt124.2.2.1, bt124.2.2.2.1, bt124.2.2.2.2))
def laws_codOf.T1 : Bool × List (List Nat × List Nat) := (true, [([], []), ([0], [0]), ([], []), ([2], [2]), ([], []), ([4], [4]), ([], []), ([6], [6]), ([], []), ([8], [8]), ([], []), ([10], [10]), ([], []), ([12], [12]), ([13], [13]), ([1, 3, 5, 7, 9, 11, 14], [1, 3, 5, 7, 9, 11, 14]), ([15, 14, 0, 1, 2, 3, 4, 5, 6, 7, 8, 9, 10, 11, 12, 13, 14, 15], [15])])
def laws_codOf.B1 : List Nat := [0, 1, 0, 4, 0, 16, 0, 64, 0, 256, 0, 1024, 0, 4096, 12288, 32767, 65535]
theorem laws_codOf.tab1 : rtab .any (opsOf Tryd.f25 1) = laws_codOf.T1 := by kernel_rfl
theorem laws_codOf.bits1 : waitsOk laws_codOf.T1.2 laws_codOf.B1 = true := by kernel_rfl
set_option maxHeartbeats 8000000 in
set_option maxRecDepth 100000 in
theorem laws_codOf.calls (a0_0 : Int) (a0_1 : Bool) (a0_2 : Int) (a0_3 : Int) (a0_4 : Int) (a0_5 : ByteArray) (a0_6 : Int) (a0_7 : Bool) (a0_8 : Bool) (a0_9 : Int) (a0_10 : Int) (r1 : Int) (r2 : Bool) (r3 : Int) (r4 : Int) (r5 : Int) (r6 : ByteArray) (r7 : Int) (r8 : Bool) (r9 : Bool) (r10 : Int) (r11 : Int) (w : World) (h : laws_codOf.f a0_0 a0_1 a0_2 a0_3 a0_4 a0_5 a0_6 a0_7 a0_8 a0_9 a0_10 = some (r1, r2, r3, r4, r5, r6, r7, r8, r9, r10, r11)) :
    Calls Tryd.prog 25 #[.agg #[.int .i64 a0_0, .bool a0_1, .int .i64 a0_2, .int .u64 a0_3, .int .u64 a0_4, .string a0_5, .int .i64 a0_6, .bool a0_7, .bool a0_8, .int .i64 a0_9, .int .i64 a0_10]] w fun e w' => e = .returned (.agg #[.int .i64 r1, .bool r2, .int .i64 r3, .int .u64 r4, .int .u64 r5, .string r6, .int .i64 r7, .bool r8, .bool r9, .int .i64 r10, .int .i64 r11]) ∧ Below w.heap.size w w' := by
  have hu26 := Tryd.underlying26
  have hu37 := Tryd.underlying37
  have hu24 := Tryd.underlying24
  have HB := Aside0.mk (Below.refl w.heap.size w)
  have H : ((laws_codPane.f a0_6 a0_7 a0_8 a0_9 a0_10).bind fun bt124 => (some (a0_0, a0_1, a0_2, a0_3, a0_4, a0_5, bt124.1, bt124.2.1, bt124.2.2.1, bt124.2.2.2.1, bt124.2.2.2.2))) = some (r1, r2, r3, r4, r5, r6, r7, r8, r9, r10, r11) := h
  clear h
  replace H := Option.bind_eq_some_iff.mp H
  obtain ⟨⟨t124, t125, t126, t127, t128⟩, A20, H⟩ := H
  replace H : (some (a0_0, a0_1, a0_2, a0_3, a0_4, a0_5, t124, t125, t126, t127, t128)) = some (r1, r2, r3, r4, r5, r6, r7, r8, r9, r10, r11) := H
  have A2 := Aside0.mk A20
  clear A20
  simp only [Option.some.injEq, Prod.mk.injEq] at H
  obtain ⟨rfl, rfl, rfl, rfl, rfl, rfl, rfl, rfl, rfl, rfl, rfl⟩ := H
  go_enter Tryd.func25, Tryd.ntmps25
  try go_wp2_with (first | ((with_reducible refine gate_dst (N := 1) rfl ?_); refine box_event ?hg (N := 1) ?hd (cs := #[.int .i64 a0_0, .bool a0_1, .int .i64 a0_2, .int .u64 a0_3, .int .u64 a0_4, .string a0_5, .int .i64 a0_6, .bool a0_7, .bool a0_8, .int .i64 a0_9, .int .i64 a0_10]) (t := 26) ?hr ?_; (case hd => rfl); (case hg => rfl); (case hr => first | (go_simp; done) | (go_simp; rfl)); intro gb122 hg w3 hbox hb; have n0_ := Aside0.mk (below_step (by repeat (first | (with_reducible first | exact HB.out | apply below_alloc | apply pw_below_drewN | apply below_drew1) | exact HB.out)) hb); have n1_ := Aside0.mk (hbox); have n2_ := Aside0.mk ((by rw [hg]; exact (below_size (by repeat (first | (with_reducible first | exact HB.out | apply below_alloc | apply pw_below_drewN | apply below_drew1) | exact HB.out))) : w.heap.size ≤ gb122)); have n3_ := Aside0.mk ((by rw [hg]; exact (below_size (by repeat (first | (with_reducible first | exact HB.out | apply below_alloc | apply pw_below_drewN | apply below_drew1) | exact HB.out))) : w.heap.size ≤ gb122)); clear HB; have HB := n0_; have BK122 := n1_; have GW122 := n2_; have GE122 := n3_; clear n0_ n1_ n2_ n3_; clear hb hbox hg) | ((with_reducible refine gate_dst (N := 2) rfl ?_); refine box_event ?hg (N := 2) ?hd (cs := #[.int .i64 0, .bool false, .int .i64 0, .int .u64 0, .int .u64 0, .string (⟨#[]⟩ : ByteArray), .int .i64 0, .bool false, .bool false, .int .i64 0, .int .i64 0]) (t := 37) ?hr ?_; (case hd => rfl); (case hg => rfl); (case hr => first | (go_simp; done) | (go_simp; rfl)); intro gb123 hg w4 hbox hb; have n0_ := Aside0.mk (blk_below (g := gb122) (o := .cells #[.int .i64 a0_0, .bool a0_1, .int .i64 a0_2, .int .u64 a0_3, .int .u64 a0_4, .string a0_5, .int .i64 a0_6, .bool a0_7, .bool a0_8, .int .i64 a0_9, .int .i64 a0_10] 26 (0, 0)) (by (with_reducible repeat (first | refine blk_drewN ?_ _ | refine blk_drew ?_ | refine blk_alloc ?_ _)); exact BK122.out) hb); have n1_ := Aside0.mk (below_step (by repeat (first | (with_reducible first | exact HB.out | apply below_alloc | apply pw_below_drewN | apply below_drew1 | refine below_set ?_ GE122.out) | exact HB.out)) hb); have n2_ := Aside0.mk (hbox); have n3_ := Aside0.mk ((by rw [hg]; exact (below_size (by repeat (first | (with_reducible first | exact HB.out | apply below_alloc | apply pw_below_drewN | apply below_drew1 | refine below_set ?_ GE122.out) | exact HB.out))) : w.heap.size ≤ gb123)); have n4_ := Aside0.mk ((by rw [hg]; exact (below_size (by repeat (first | (with_reducible first | exact HB.out | apply below_alloc | apply pw_below_drewN | apply below_drew1 | refine below_set ?_ GE122.out) | exact HB.out))) : w.heap.size ≤ gb123)); have n5_ := Aside0.mk ((by rw [hg]; exact Nat.ne_of_lt (blk_lt (g := gb122) (o := .cells #[.int .i64 a0_0, .bool a0_1, .int .i64 a0_2, .int .u64 a0_3, .int .u64 a0_4, .string a0_5, .int .i64 a0_6, .bool a0_7, .bool a0_8, .int .i64 a0_9, .int .i64 a0_10] 26 (0, 0)) (by (with_reducible repeat (first | refine blk_drewN ?_ _ | refine blk_drew ?_ | refine blk_alloc ?_ _)); exact BK122.out)) : gb122 ≠ gb123)); have n6_ := Aside0.mk ((by rw [hg]; exact Nat.ne_of_gt (blk_lt (g := gb122) (o := .cells #[.int .i64 a0_0, .bool a0_1, .int .i64 a0_2, .int .u64 a0_3, .int .u64 a0_4, .string a0_5, .int .i64 a0_6, .bool a0_7, .bool a0_8, .int .i64 a0_9, .int .i64 a0_10] 26 (0, 0)) (by (with_reducible repeat (first | refine blk_drewN ?_ _ | refine blk_drew ?_ | refine blk_alloc ?_ _)); exact BK122.out)) : gb123 ≠ gb122)); clear BK122; clear HB; have BK122 := n0_; have HB := n1_; have BK123 := n2_; have GW123 := n3_; have GE123 := n4_; have NB122_123 := n5_; have NB123_122 := n6_; clear n0_ n1_ n2_ n3_ n4_ n5_ n6_; clear hb hbox hg))
  have n0_ := Aside0.mk (blk_drew BK122.out)
  have n1_ := Aside0.mk (blk_drew BK123.out)
  have n2_ := Aside0.mk (below_drew1 HB.out)
  clear BK122
  clear BK123
  clear HB
  have BK122 := n0_
  have BK123 := n1_
  have HB := n2_
  clear n0_ n1_ n2_
  refine start_ (n := 17) (S := fun w' => w'.cell? ⟨gb122, 0, none⟩ = some (.int .i64 a0_0) ∧ w'.cell? ⟨gb122, 1, none⟩ = some (.bool a0_1) ∧ w'.cell? ⟨gb122, 2, none⟩ = some (.int .i64 a0_2) ∧ w'.cell? ⟨gb122, 3, none⟩ = some (.int .u64 a0_3) ∧ w'.cell? ⟨gb122, 4, none⟩ = some (.int .u64 a0_4) ∧ w'.cell? ⟨gb122, 5, none⟩ = some (.string a0_5) ∧ w'.cell? ⟨gb122, 6, none⟩ = some (.int .i64 a0_6) ∧ w'.cell? ⟨gb122, 7, none⟩ = some (.bool a0_7) ∧ w'.cell? ⟨gb122, 8, none⟩ = some (.bool a0_8) ∧ w'.cell? ⟨gb122, 9, none⟩ = some (.int .i64 a0_9) ∧ w'.cell? ⟨gb122, 10, none⟩ = some (.int .i64 a0_10)) (ds := []) #[false, false, false, false, false, false, false, false, false, false, false, false, false, false, false, false, false] (by kernel_rfl) rfl rfl ⟨(blk_cell BK122.out 0).trans rfl, (blk_cell BK122.out 1).trans rfl, (blk_cell BK122.out 2).trans rfl, (blk_cell BK122.out 3).trans rfl, (blk_cell BK122.out 4).trans rfl, (blk_cell BK122.out 5).trans rfl, (blk_cell BK122.out 6).trans rfl, (blk_cell BK122.out 7).trans rfl, (blk_cell BK122.out 8).trans rfl, (blk_cell BK122.out 9).trans rfl, (blk_cell BK122.out 10).trans rfl⟩ (fun hHeld => ?_); refine with_tabW laws_codOf.tab1 laws_codOf.bits1 (fun HT_ HW_ => ?_)
  generalize w4.drew = w5 at BK122 BK123 HB hHeld ⊢
  refine pure_ (i := 0) (N := some 3) (v := ?_) (a' := ?_) #[true, false, false, false, false, false, false, false, false, false, false, false, false, false, false, false, false] rfl rfl (any_of HT_.out (by kernel_rfl)) (fun _ _ _ h => h) (Or.inl ⟨by rfl, ?_⟩) ?_ ?_
  rotate_left
  · intro w'
    go_simp
    with_reducible rfl
  rotate_left
  · simp only [Act.put, List.setIfInBounds_toArray, List.set_cons_zero, List.set_cons_succ, i64_w, i32_w]
    rfl
  refine pure_ (i := 2) (N := some 5) (v := ?_) (a' := ?_) #[true, false, true, false, false, false, false, false, false, false, false, false, false, false, false, false, false] rfl rfl (any_of HT_.out (by kernel_rfl)) (fun _ _ _ h => h) (Or.inl ⟨by rfl, ?_⟩) ?_ ?_
  rotate_left
  · intro w'
    go_simp
    with_reducible rfl
  rotate_left
  · simp only [Act.put, List.setIfInBounds_toArray, List.set_cons_zero, List.set_cons_succ, i64_w, i32_w]
    rfl
  refine pure_ (i := 4) (N := some 7) (v := ?_) (a' := ?_) #[true, false, true, false, true, false, false, false, false, false, false, false, false, false, false, false, false] rfl rfl (any_of HT_.out (by kernel_rfl)) (fun _ _ _ h => h) (Or.inl ⟨by rfl, ?_⟩) ?_ ?_
  rotate_left
  · intro w'
    go_simp
    with_reducible rfl
  rotate_left
  · simp only [Act.put, List.setIfInBounds_toArray, List.set_cons_zero, List.set_cons_succ, i64_w, i32_w]
    rfl
  refine pure_ (i := 6) (N := some 9) (v := ?_) (a' := ?_) #[true, false, true, false, true, false, true, false, false, false, false, false, false, false, false, false, false] rfl rfl (any_of HT_.out (by kernel_rfl)) (fun _ _ _ h => h) (Or.inl ⟨by rfl, ?_⟩) ?_ ?_
  rotate_left
  · intro w'
    go_simp
    with_reducible rfl
  rotate_left
  · simp only [Act.put, List.setIfInBounds_toArray, List.set_cons_zero, List.set_cons_succ, i64_w, i32_w]
    rfl
  refine pure_ (i := 8) (N := some 11) (v := ?_) (a' := ?_) #[true, false, true, false, true, false, true, false, true, false, false, false, false, false, false, false, false] rfl rfl (any_of HT_.out (by kernel_rfl)) (fun _ _ _ h => h) (Or.inl ⟨by rfl, ?_⟩) ?_ ?_
  rotate_left
  · intro w'
    go_simp
    with_reducible rfl
  rotate_left
  · simp only [Act.put, List.setIfInBounds_toArray, List.set_cons_zero, List.set_cons_succ, i64_w, i32_w]
    rfl
  refine pure_ (i := 10) (N := some 13) (v := ?_) (a' := ?_) #[true, false, true, false, true, false, true, false, true, false, true, false, false, false, false, false, false] rfl rfl (any_of HT_.out (by kernel_rfl)) (fun _ _ _ h => h) (Or.inl ⟨by rfl, ?_⟩) ?_ ?_
  rotate_left
  · intro w'
    go_simp
    with_reducible rfl
  rotate_left
  · simp only [Act.put, List.setIfInBounds_toArray, List.set_cons_zero, List.set_cons_succ, i64_w, i32_w]
    rfl
  refine pure_ (i := 12) (N := some 15) (v := ?_) (a' := ?_) #[true, false, true, false, true, false, true, false, true, false, true, false, true, false, false, false, false] rfl rfl (any_of HT_.out (by kernel_rfl)) (fun _ _ _ h => h) (Or.inl ⟨by rfl, ?_⟩) ?_ ?_
  rotate_left
  · intro w'
    go_simp
    with_reducible rfl
  rotate_left
  · simp only [Act.put, List.setIfInBounds_toArray, List.set_cons_zero, List.set_cons_succ, i64_w, i32_w]
    rfl
  refine take_ (i := 1) (N := some 4) (v := ?_) (a' := ?_) #[true, true, true, false, true, false, true, false, true, false, true, false, true, false, false, false, false] rfl rfl (take_ofW HT_.out HW_.out (by kernel_rfl)) (fun _ _ _ h => h) (Or.inl ⟨by rfl, ?_⟩) hHeld ?_ ?_
  rotate_left
  · rintro w' ⟨s0, s1, s2, s3, s4, s5, s6, s7, s8, s9, s10⟩
    go_simp
    with_reducible rfl
  rotate_left
  · simp only [Act.put, List.setIfInBounds_toArray, List.set_cons_zero, List.set_cons_succ, i64_w, i32_w]
    rfl
  refine take_ (i := 3) (N := some 6) (v := ?_) (a' := ?_) #[true, true, true, true, true, false, true, false, true, false, true, false, true, false, false, false, false] rfl rfl (take_ofW HT_.out HW_.out (by kernel_rfl)) (fun _ _ _ h => h) (Or.inl ⟨by rfl, ?_⟩) hHeld ?_ ?_
  rotate_left
  · rintro w' ⟨s0, s1, s2, s3, s4, s5, s6, s7, s8, s9, s10⟩
    go_simp
    with_reducible rfl
  rotate_left
  · simp only [Act.put, List.setIfInBounds_toArray, List.set_cons_zero, List.set_cons_succ, i64_w, i32_w]
    rfl
  refine take_ (i := 5) (N := some 8) (v := ?_) (a' := ?_) #[true, true, true, true, true, true, true, false, true, false, true, false, true, false, false, false, false] rfl rfl (take_ofW HT_.out HW_.out (by kernel_rfl)) (fun _ _ _ h => h) (Or.inl ⟨by rfl, ?_⟩) hHeld ?_ ?_
  rotate_left
  · rintro w' ⟨s0, s1, s2, s3, s4, s5, s6, s7, s8, s9, s10⟩
    go_simp
    with_reducible rfl
  rotate_left
  · simp only [Act.put, List.setIfInBounds_toArray, List.set_cons_zero, List.set_cons_succ, i64_w, i32_w]
    rfl
  refine take_ (i := 7) (N := some 10) (v := ?_) (a' := ?_) #[true, true, true, true, true, true, true, true, true, false, true, false, true, false, false, false, false] rfl rfl (take_ofW HT_.out HW_.out (by kernel_rfl)) (fun _ _ _ h => h) (Or.inl ⟨by rfl, ?_⟩) hHeld ?_ ?_
  rotate_left
  · rintro w' ⟨s0, s1, s2, s3, s4, s5, s6, s7, s8, s9, s10⟩
    go_simp
    with_reducible rfl
  rotate_left
  · simp only [Act.put, List.setIfInBounds_toArray, List.set_cons_zero, List.set_cons_succ, i64_w, i32_w]
    rfl
  refine take_ (i := 9) (N := some 12) (v := ?_) (a' := ?_) #[true, true, true, true, true, true, true, true, true, true, true, false, true, false, false, false, false] rfl rfl (take_ofW HT_.out HW_.out (by kernel_rfl)) (fun _ _ _ h => h) (Or.inl ⟨by rfl, ?_⟩) hHeld ?_ ?_
  rotate_left
  · rintro w' ⟨s0, s1, s2, s3, s4, s5, s6, s7, s8, s9, s10⟩
    go_simp
    with_reducible rfl
  rotate_left
  · simp only [Act.put, List.setIfInBounds_toArray, List.set_cons_zero, List.set_cons_succ, i64_w, i32_w]
    rfl
  refine take_ (i := 11) (N := some 14) (v := ?_) (a' := ?_) #[true, true, true, true, true, true, true, true, true, true, true, true, true, false, false, false, false] rfl rfl (take_ofW HT_.out HW_.out (by kernel_rfl)) (fun _ _ _ h => h) (Or.inl ⟨by rfl, ?_⟩) hHeld ?_ ?_
  rotate_left
  · rintro w' ⟨s0, s1, s2, s3, s4, s5, s6, s7, s8, s9, s10⟩
    go_simp
    with_reducible rfl
  rotate_left
  · simp only [Act.put, List.setIfInBounds_toArray, List.set_cons_zero, List.set_cons_succ, i64_w, i32_w]
    rfl
  refine take_ (i := 13) (N := some 16) (v := ?_) (a' := ?_) #[true, true, true, true, true, true, true, true, true, true, true, true, true, true, false, false, false] rfl rfl (take_ofW HT_.out HW_.out (by kernel_rfl)) (fun _ _ _ h => h) (Or.inl ⟨by rfl, ?_⟩) hHeld ?_ ?_
  rotate_left
  · rintro w' ⟨s0, s1, s2, s3, s4, s5, s6, s7, s8, s9, s10⟩
    go_simp
    with_reducible rfl
  rotate_left
  · simp only [Act.put, List.setIfInBounds_toArray, List.set_cons_zero, List.set_cons_succ, i64_w, i32_w]
    rfl
  refine one_ (i := 14) (N := some 17) #[true, true, true, true, true, true, true, true, true, true, true, true, true, true, true, false, false] rfl rfl (one_of HT_.out (by kernel_rfl)) (by decide) (fun K hK => ?_)
  refine goes_ Tryd.func29 (by kernel_rfl) rfl #[.agg #[.int .i64 a0_6, .bool a0_7, .bool a0_8, .int .i64 a0_9, .int .i64 a0_10]] (by rfl) rfl rfl (by (try simp only [List.map_toArray, List.map_cons, List.map_nil]); first | done | rfl | (simp only [List.length_drop, List.length_take]; rfl)) ?_
  with_reducible refine (laws_codPane.calls a0_6 a0_7 a0_8 a0_9 a0_10 t124 t125 t126 t127 t128 _ A2.out).mono ?_
  rintro e w6 ⟨rfl, hb⟩
  refine ⟨_, rfl, ?_⟩
  have n0_ := Aside0.mk (blk_below (g := gb122) (o := .cells #[.int .i64 a0_0, .bool a0_1, .int .i64 a0_2, .int .u64 a0_3, .int .u64 a0_4, .string a0_5, .int .i64 a0_6, .bool a0_7, .bool a0_8, .int .i64 a0_9, .int .i64 a0_10] 26 (0, 0)) (by (with_reducible repeat (first | refine blk_drewN ?_ _ | refine blk_drew ?_ | refine blk_alloc ?_ _)); exact BK122.out) hb)
  have n1_ := Aside0.mk (blk_below (g := gb123) (o := .cells #[.int .i64 0, .bool false, .int .i64 0, .int .u64 0, .int .u64 0, .string (⟨#[]⟩ : ByteArray), .int .i64 0, .bool false, .bool false, .int .i64 0, .int .i64 0] 37 (0, 0)) (by (with_reducible repeat (first | refine blk_drewN ?_ _ | refine blk_drew ?_ | refine blk_alloc ?_ _)); exact BK123.out) hb)
  have n2_ := Aside0.mk (below_step (by repeat (first | (with_reducible first | exact HB.out | apply below_alloc | apply pw_below_drewN | apply below_drew1 | refine below_set ?_ GE122.out | refine below_set ?_ GE123.out) | exact HB.out)) hb)
  clear BK122
  clear BK123
  clear HB
  have BK122 := n0_
  have BK123 := n1_
  have HB := n2_
  clear n0_ n1_ n2_
  (try clear hb)
  (try clear hb2)
  (try clear hk)
  (try clear hi)
  refine hK.out _ _ ⟨(blk_cell BK122.out 0).trans rfl, (blk_cell BK122.out 1).trans rfl, (blk_cell BK122.out 2).trans rfl, (blk_cell BK122.out 3).trans rfl, (blk_cell BK122.out 4).trans rfl, (blk_cell BK122.out 5).trans rfl, (blk_cell BK122.out 6).trans rfl, (blk_cell BK122.out 7).trans rfl, (blk_cell BK122.out 8).trans rfl, (blk_cell BK122.out 9).trans rfl, (blk_cell BK122.out 10).trans rfl⟩ (fun hHeld => ?_)
  clear hK K
  refine norm_ (a' := ?_) ?_ ?_
  rotate_left
  · show Act.put _ (some 17) _ = _
    simp only [Act.put, List.setIfInBounds_toArray, List.set_cons_zero, List.set_cons_succ, i64_w, i32_w]
    rfl
  refine pure_ (i := 15) (N := some 18) (v := ?_) (a' := ?_) #[true, true, true, true, true, true, true, true, true, true, true, true, true, true, true, true, false] rfl rfl (any_of HT_.out (by kernel_rfl)) (fun _ _ _ h => h) (Or.inl ⟨by rfl, ?_⟩) ?_ ?_
  rotate_left
  · intro w'
    go_simp
    with_reducible rfl
  rotate_left
  · simp only [Act.put, List.setIfInBounds_toArray, List.set_cons_zero, List.set_cons_succ, i64_w, i32_w]
    rfl
  refine one_ (i := 16) (N := none) #[true, true, true, true, true, true, true, true, true, true, true, true, true, true, true, true, true] rfl rfl (one_of HT_.out (by kernel_rfl)) (by decide) (fun K hK => ?_)
  have hs7 : w6.cell? ⟨gb123, 0, none⟩ = some (.int .i64 0) := (blk_cell BK123.out 0).trans rfl
  have hfs7 := blk_frozen BK123.out 0
  have hns7_0 := NB122_123.out
  have hms7_0 := NB123_122.out
  have hs8 : w6.cell? ⟨gb123, 1, none⟩ = some (.bool false) := (blk_cell BK123.out 1).trans rfl
  have hfs8 := blk_frozen BK123.out 1
  have hns8_0 := NB122_123.out
  have hms8_0 := NB123_122.out
  have hs9 : w6.cell? ⟨gb123, 2, none⟩ = some (.int .i64 0) := (blk_cell BK123.out 2).trans rfl
  have hfs9 := blk_frozen BK123.out 2
  have hns9_0 := NB122_123.out
  have hms9_0 := NB123_122.out
  have hs10 : w6.cell? ⟨gb123, 3, none⟩ = some (.int .u64 0) := (blk_cell BK123.out 3).trans rfl
  have hfs10 := blk_frozen BK123.out 3
  have hns10_0 := NB122_123.out
  have hms10_0 := NB123_122.out
  have hs11 : w6.cell? ⟨gb123, 4, none⟩ = some (.int .u64 0) := (blk_cell BK123.out 4).trans rfl
  have hfs11 := blk_frozen BK123.out 4
  have hns11_0 := NB122_123.out
  have hms11_0 := NB123_122.out
  have hs12 : w6.cell? ⟨gb123, 5, none⟩ = some (.string (⟨#[]⟩ : ByteArray)) := (blk_cell BK123.out 5).trans rfl
  have hfs12 := blk_frozen BK123.out 5
  have hns12_0 := NB122_123.out
  have hms12_0 := NB123_122.out
  have hs13 : w6.cell? ⟨gb123, 6, none⟩ = some (.int .i64 0) := (blk_cell BK123.out 6).trans rfl
  have hfs13 := blk_frozen BK123.out 6
  have hns13_0 := NB122_123.out
  have hms13_0 := NB123_122.out
  have hs14 : w6.cell? ⟨gb123, 7, none⟩ = some (.bool false) := (blk_cell BK123.out 7).trans rfl
  have hfs14 := blk_frozen BK123.out 7
  have hns14_0 := NB122_123.out
  have hms14_0 := NB123_122.out
  have hs15 : w6.cell? ⟨gb123, 8, none⟩ = some (.bool false) := (blk_cell BK123.out 8).trans rfl
  have hfs15 := blk_frozen BK123.out 8
  have hns15_0 := NB122_123.out
  have hms15_0 := NB123_122.out
  have hs16 : w6.cell? ⟨gb123, 9, none⟩ = some (.int .i64 0) := (blk_cell BK123.out 9).trans rfl
  have hfs16 := blk_frozen BK123.out 9
  have hns16_0 := NB122_123.out
  have hms16_0 := NB123_122.out
  have hs17 : w6.cell? ⟨gb123, 10, none⟩ = some (.int .i64 0) := (blk_cell BK123.out 10).trans rfl
  have hfs17 := blk_frozen BK123.out 10
  have hns17_0 := NB122_123.out
  have hms17_0 := NB123_122.out
  refine skip_ (w1 := ?_) (by rfl) rfl ?_ ?_
  rotate_left
  · go_simp
    rfl
  refine hK.out _ _ ⟨((cell_far (p := ⟨gb123, _, none⟩) NB122_123.out _).trans (((cell_far (p := ⟨gb123, _, none⟩) NB122_123.out _).trans (((cell_far (p := ⟨gb123, _, none⟩) NB122_123.out _).trans (((cell_far (p := ⟨gb123, _, none⟩) NB122_123.out _).trans (((cell_far (p := ⟨gb123, _, none⟩) NB122_123.out _).trans (((cell_far (p := ⟨gb123, _, none⟩) NB122_123.out _).trans (((cell_far (p := ⟨gb123, _, none⟩) NB122_123.out _).trans (((cell_far (p := ⟨gb123, _, none⟩) NB122_123.out _).trans (((cell_far (p := ⟨gb123, _, none⟩) NB122_123.out _).trans (((cell_far (p := ⟨gb123, _, none⟩) NB122_123.out _).trans (((cell_far (p := ⟨gb123, _, none⟩) NB122_123.out _).trans (hHeld.1)))))))))))))))))))))), ((cell_far (p := ⟨gb123, _, none⟩) NB122_123.out _).trans (((cell_far (p := ⟨gb123, _, none⟩) NB122_123.out _).trans (((cell_far (p := ⟨gb123, _, none⟩) NB122_123.out _).trans (((cell_far (p := ⟨gb123, _, none⟩) NB122_123.out _).trans (((cell_far (p := ⟨gb123, _, none⟩) NB122_123.out _).trans (((cell_far (p := ⟨gb123, _, none⟩) NB122_123.out _).trans (((cell_far (p := ⟨gb123, _, none⟩) NB122_123.out _).trans (((cell_far (p := ⟨gb123, _, none⟩) NB122_123.out _).trans (((cell_far (p := ⟨gb123, _, none⟩) NB122_123.out _).trans (((cell_far (p := ⟨gb123, _, none⟩) NB122_123.out _).trans (((cell_far (p := ⟨gb123, _, none⟩) NB122_123.out _).trans (hHeld.2.1)))))))))))))))))))))), ((cell_far (p := ⟨gb123, _, none⟩) NB122_123.out _).trans (((cell_far (p := ⟨gb123, _, none⟩) NB122_123.out _).trans (((cell_far (p := ⟨gb123, _, none⟩) NB122_123.out _).trans (((cell_far (p := ⟨gb123, _, none⟩) NB122_123.out _).trans (((cell_far (p := ⟨gb123, _, none⟩) NB122_123.out _).trans (((cell_far (p := ⟨gb123, _, none⟩) NB122_123.out _).trans (((cell_far (p := ⟨gb123, _, none⟩) NB122_123.out _).trans (((cell_far (p := ⟨gb123, _, none⟩) NB122_123.out _).trans (((cell_far (p := ⟨gb123, _, none⟩) NB122_123.out _).trans (((cell_far (p := ⟨gb123, _, none⟩) NB122_123.out _).trans (((cell_far (p := ⟨gb123, _, none⟩) NB122_123.out _).trans (hHeld.2.2.1)))))))))))))))))))))), ((cell_far (p := ⟨gb123, _, none⟩) NB122_123.out _).trans (((cell_far (p := ⟨gb123, _, none⟩) NB122_123.out _).trans (((cell_far (p := ⟨gb123, _, none⟩) NB122_123.out _).trans (((cell_far (p := ⟨gb123, _, none⟩) NB122_123.out _).trans (((cell_far (p := ⟨gb123, _, none⟩) NB122_123.out _).trans (((cell_far (p := ⟨gb123, _, none⟩) NB122_123.out _).trans (((cell_far (p := ⟨gb123, _, none⟩) NB122_123.out _).trans (((cell_far (p := ⟨gb123, _, none⟩) NB122_123.out _).trans (((cell_far (p := ⟨gb123, _, none⟩) NB122_123.out _).trans (((cell_far (p := ⟨gb123, _, none⟩) NB122_123.out _).trans (((cell_far (p := ⟨gb123, _, none⟩) NB122_123.out _).trans (hHeld.2.2.2.1)))))))))))))))))))))), ((cell_far (p := ⟨gb123, _, none⟩) NB122_123.out _).trans (((cell_far (p := ⟨gb123, _, none⟩) NB122_123.out _).trans (((cell_far (p := ⟨gb123, _, none⟩) NB122_123.out _).trans (((cell_far (p := ⟨gb123, _, none⟩) NB122_123.out _).trans (((cell_far (p := ⟨gb123, _, none⟩) NB122_123.out _).trans (((cell_far (p := ⟨gb123, _, none⟩) NB122_123.out _).trans (((cell_far (p := ⟨gb123, _, none⟩) NB122_123.out _).trans (((cell_far (p := ⟨gb123, _, none⟩) NB122_123.out _).trans (((cell_far (p := ⟨gb123, _, none⟩) NB122_123.out _).trans (((cell_far (p := ⟨gb123, _, none⟩) NB122_123.out _).trans (((cell_far (p := ⟨gb123, _, none⟩) NB122_123.out _).trans (hHeld.2.2.2.2.1)))))))))))))))))))))), ((cell_far (p := ⟨gb123, _, none⟩) NB122_123.out _).trans (((cell_far (p := ⟨gb123, _, none⟩) NB122_123.out _).trans (((cell_far (p := ⟨gb123, _, none⟩) NB122_123.out _).trans (((cell_far (p := ⟨gb123, _, none⟩) NB122_123.out _).trans (((cell_far (p := ⟨gb123, _, none⟩) NB122_123.out _).trans (((cell_far (p := ⟨gb123, _, none⟩) NB122_123.out _).trans (((cell_far (p := ⟨gb123, _, none⟩) NB122_123.out _).trans (((cell_far (p := ⟨gb123, _, none⟩) NB122_123.out _).trans (((cell_far (p := ⟨gb123, _, none⟩) NB122_123.out _).trans (((cell_far (p := ⟨gb123, _, none⟩) NB122_123.out _).trans (((cell_far (p := ⟨gb123, _, none⟩) NB122_123.out _).trans (hHeld.2.2.2.2.2.1)))))))))))))))))))))), ((cell_far (p := ⟨gb123, _, none⟩) NB122_123.out _).trans (((cell_far (p := ⟨gb123, _, none⟩) NB122_123.out _).trans (((cell_far (p := ⟨gb123, _, none⟩) NB122_123.out _).trans (((cell_far (p := ⟨gb123, _, none⟩) NB122_123.out _).trans (((cell_far (p := ⟨gb123, _, none⟩) NB122_123.out _).trans (((cell_far (p := ⟨gb123, _, none⟩) NB122_123.out _).trans (((cell_far (p := ⟨gb123, _, none⟩) NB122_123.out _).trans (((cell_far (p := ⟨gb123, _, none⟩) NB122_123.out _).trans (((cell_far (p := ⟨gb123, _, none⟩) NB122_123.out _).trans (((cell_far (p := ⟨gb123, _, none⟩) NB122_123.out _).trans (((cell_far (p := ⟨gb123, _, none⟩) NB122_123.out _).trans (hHeld.2.2.2.2.2.2.1)))))))))))))))))))))), ((cell_far (p := ⟨gb123, _, none⟩) NB122_123.out _).trans (((cell_far (p := ⟨gb123, _, none⟩) NB122_123.out _).trans (((cell_far (p := ⟨gb123, _, none⟩) NB122_123.out _).trans (((cell_far (p := ⟨gb123, _, none⟩) NB122_123.out _).trans (((cell_far (p := ⟨gb123, _, none⟩) NB122_123.out _).trans (((cell_far (p := ⟨gb123, _, none⟩) NB122_123.out _).trans (((cell_far (p := ⟨gb123, _, none⟩) NB122_123.out _).trans (((cell_far (p := ⟨gb123, _, none⟩) NB122_123.out _).trans (((cell_far (p := ⟨gb123, _, none⟩) NB122_123.out _).trans (((cell_far (p := ⟨gb123, _, none⟩) NB122_123.out _).trans (((cell_far (p := ⟨gb123, _, none⟩) NB122_123.out _).trans (hHeld.2.2.2.2.2.2.2.1)))))))))))))))))))))), ((cell_far (p := ⟨gb123, _, none⟩) NB122_123.out _).trans (((cell_far (p := ⟨gb123, _, none⟩) NB122_123.out _).trans (((cell_far (p := ⟨gb123, _, none⟩) NB122_123.out _).trans (((cell_far (p := ⟨gb123, _, none⟩) NB122_123.out _).trans (((cell_far (p := ⟨gb123, _, none⟩) NB122_123.out _).trans (((cell_far (p := ⟨gb123, _, none⟩) NB122_123.out _).trans (((cell_far (p := ⟨gb123, _, none⟩) NB122_123.out _).trans (((cell_far (p := ⟨gb123, _, none⟩) NB122_123.out _).trans (((cell_far (p := ⟨gb123, _, none⟩) NB122_123.out _).trans (((cell_far (p := ⟨gb123, _, none⟩) NB122_123.out _).trans (((cell_far (p := ⟨gb123, _, none⟩) NB122_123.out _).trans (hHeld.2.2.2.2.2.2.2.2.1)))))))))))))))))))))), ((cell_far (p := ⟨gb123, _, none⟩) NB122_123.out _).trans (((cell_far (p := ⟨gb123, _, none⟩) NB122_123.out _).trans (((cell_far (p := ⟨gb123, _, none⟩) NB122_123.out _).trans (((cell_far (p := ⟨gb123, _, none⟩) NB122_123.out _).trans (((cell_far (p := ⟨gb123, _, none⟩) NB122_123.out _).trans (((cell_far (p := ⟨gb123, _, none⟩) NB122_123.out _).trans (((cell_far (p := ⟨gb123, _, none⟩) NB122_123.out _).trans (((cell_far (p := ⟨gb123, _, none⟩) NB122_123.out _).trans (((cell_far (p := ⟨gb123, _, none⟩) NB122_123.out _).trans (((cell_far (p := ⟨gb123, _, none⟩) NB122_123.out _).trans (((cell_far (p := ⟨gb123, _, none⟩) NB122_123.out _).trans (hHeld.2.2.2.2.2.2.2.2.2.1)))))))))))))))))))))), ((cell_far (p := ⟨gb123, _, none⟩) NB122_123.out _).trans (((cell_far (p := ⟨gb123, _, none⟩) NB122_123.out _).trans (((cell_far (p := ⟨gb123, _, none⟩) NB122_123.out _).trans (((cell_far (p := ⟨gb123, _, none⟩) NB122_123.out _).trans (((cell_far (p := ⟨gb123, _, none⟩) NB122_123.out _).trans (((cell_far (p := ⟨gb123, _, none⟩) NB122_123.out _).trans (((cell_far (p := ⟨gb123, _, none⟩) NB122_123.out _).trans (((cell_far (p := ⟨gb123, _, none⟩) NB122_123.out _).trans (((cell_far (p := ⟨gb123, _, none⟩) NB122_123.out _).trans (((cell_far (p := ⟨gb123, _, none⟩) NB122_123.out _).trans (((cell_far (p := ⟨gb123, _, none⟩) NB122_123.out _).trans (hHeld.2.2.2.2.2.2.2.2.2.2))))))))))))))))))))))⟩ (fun hHeld => ?_)
  clear hK K
  refine done_ (done_of HT_.out (by kernel_rfl)) ?_
  try go_wp2
  refine bodyPost_ret (results_cell_row rfl _ _ gb123 37 #[.int .i64 a0_0, .bool a0_1, .int .i64 a0_2, .int .u64 a0_3, .int .u64 a0_4, .string a0_5, .int .i64 t124, .bool t125, .bool t126, .int .i64 t127, .int .i64 t128] (0, 0) _ rfl (by (with_reducible repeat (first | refine blk_drewN ?_ _ | refine blk_drew ?_ | refine blk_alloc ?_ _)); refine blk_put (cs := #[.int .i64 a0_0, .bool a0_1, .int .i64 a0_2, .int .u64 a0_3, .int .u64 a0_4, .string a0_5, .int .i64 t124, .bool t125, .bool t126, .int .i64 t127, .int .i64 0]) ?_ 10 _ rfl; (with_reducible repeat (first | refine blk_drewN ?_ _ | refine blk_drew ?_ | refine blk_alloc ?_ _)); refine blk_put (cs := #[.int .i64 a0_0, .bool a0_1, .int .i64 a0_2, .int .u64 a0_3, .int .u64 a0_4, .string a0_5, .int .i64 t124, .bool t125, .bool t126, .int .i64 0, .int .i64 0]) ?_ 9 _ rfl; (with_reducible repeat (first | refine blk_drewN ?_ _ | refine blk_drew ?_ | refine blk_alloc ?_ _)); refine blk_put (cs := #[.int .i64 a0_0, .bool a0_1, .int .i64 a0_2, .int .u64 a0_3, .int .u64 a0_4, .string a0_5, .int .i64 t124, .bool t125, .bool false, .int .i64 0, .int .i64 0]) ?_ 8 _ rfl; (with_reducible repeat (first | refine blk_drewN ?_ _ | refine blk_drew ?_ | refine blk_alloc ?_ _)); refine blk_put (cs := #[.int .i64 a0_0, .bool a0_1, .int .i64 a0_2, .int .u64 a0_3, .int .u64 a0_4, .string a0_5, .int .i64 t124, .bool false, .bool false, .int .i64 0, .int .i64 0]) ?_ 7 _ rfl; (with_reducible repeat (first | refine blk_drewN ?_ _ | refine blk_drew ?_ | refine blk_alloc ?_ _)); refine blk_put (cs := #[.int .i64 a0_0, .bool a0_1, .int .i64 a0_2, .int .u64 a0_3, .int .u64 a0_4, .string a0_5, .int .i64 0, .bool false, .bool false, .int .i64 0, .int .i64 0]) ?_ 6 _ rfl; (with_reducible repeat (first | refine blk_drewN ?_ _ | refine blk_drew ?_ | refine blk_alloc ?_ _)); refine blk_put (cs := #[.int .i64 a0_0, .bool a0_1, .int .i64 a0_2, .int .u64 a0_3, .int .u64 a0_4, .string (⟨#[]⟩ : ByteArray), .int .i64 0, .bool false, .bool false, .int .i64 0, .int .i64 0]) ?_ 5 _ rfl; (with_reducible repeat (first | refine blk_drewN ?_ _ | refine blk_drew ?_ | refine blk_alloc ?_ _)); refine blk_put (cs := #[.int .i64 a0_0, .bool a0_1, .int .i64 a0_2, .int .u64 a0_3, .int .u64 0, .string (⟨#[]⟩ : ByteArray), .int .i64 0, .bool false, .bool false, .int .i64 0, .int .i64 0]) ?_ 4 _ rfl; (with_reducible repeat (first | refine blk_drewN ?_ _ | refine blk_drew ?_ | refine blk_alloc ?_ _)); refine blk_put (cs := #[.int .i64 a0_0, .bool a0_1, .int .i64 a0_2, .int .u64 0, .int .u64 0, .string (⟨#[]⟩ : ByteArray), .int .i64 0, .bool false, .bool false, .int .i64 0, .int .i64 0]) ?_ 3 _ rfl; (with_reducible repeat (first | refine blk_drewN ?_ _ | refine blk_drew ?_ | refine blk_alloc ?_ _)); refine blk_put (cs := #[.int .i64 a0_0, .bool a0_1, .int .i64 0, .int .u64 0, .int .u64 0, .string (⟨#[]⟩ : ByteArray), .int .i64 0, .bool false, .bool false, .int .i64 0, .int .i64 0]) ?_ 2 _ rfl; (with_reducible repeat (first | refine blk_drewN ?_ _ | refine blk_drew ?_ | refine blk_alloc ?_ _)); refine blk_put (cs := #[.int .i64 a0_0, .bool false, .int .i64 0, .int .u64 0, .int .u64 0, .string (⟨#[]⟩ : ByteArray), .int .i64 0, .bool false, .bool false, .int .i64 0, .int .i64 0]) ?_ 1 _ rfl; (with_reducible repeat (first | refine blk_drewN ?_ _ | refine blk_drew ?_ | refine blk_alloc ?_ _)); refine blk_put (cs := #[.int .i64 0, .bool false, .int .i64 0, .int .u64 0, .int .u64 0, .string (⟨#[]⟩ : ByteArray), .int .i64 0, .bool false, .bool false, .int .i64 0, .int .i64 0]) ?_ 0 _ rfl; (with_reducible repeat (first | refine blk_drewN ?_ _ | refine blk_drew ?_ | refine blk_alloc ?_ _)); exact BK123.out) Tryd.underlying37 rfl (by kernel_rfl)) rfl ?_
  exact ⟨by first | rfl | (simp [errW_none, errW_some] <;> rfl) | (simp [*, errW_none, errW_some] <;> rfl), by repeat (first | (with_reducible first | exact HB.out | apply below_alloc | apply pw_below_drewN | apply below_drew1 | refine below_set ?_ GE122.out | refine below_set ?_ GE123.out) | exact HB.out)⟩
end Go.Proofs.YtgdbeiadlgkedaaDoor.PFnEncode
