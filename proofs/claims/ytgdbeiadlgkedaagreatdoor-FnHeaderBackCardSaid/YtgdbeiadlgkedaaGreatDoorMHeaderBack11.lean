/- Contracts and plain laws, several texts in one. -/
import Derived.Test.YtgdbeiadlgkedaaGreatDoorMHeaderBack6
import Derived.Test.YtgdbeiadlgkedaaGreatDoorMHeaderBack10
import Derived.Test.YtgdbeiadlgkedaaGreatDoorMHeaderBack12
import Derived.Deep.RegionHeld3
set_option linter.unusedVariables false
set_option linter.unusedSimpArgs false
namespace Go.Proofs.YtgdbeiadlgkedaaGreatDoor
open Go.RowKit PFnWindowOne Go.Proofs.YtgdbeiadlgkedaaGreatDoorW.PrintWords Go.Proofs.YtgdbeiadlgkedaaGreatDoorW.PrintLast Go.Proofs.YtgdbeiadlgkedaaGreatDoorW.PrintMore
def dwh.T11 : Bool × List (List Nat × List Nat) := (true, [([], []), ([], []), ([], []), ([0, 0], [0]), ([1, 3, 0, 1, 3], [1]), ([2, 4, 0, 1, 2, 3, 4], [2]), ([5, 0, 1, 2, 3, 4, 5], [])])
def dwh.B11 : List Nat := [0, 0, 0, 1, 11, 31, 63]
theorem dwh.tab11 : rtab .any (opsOf Tryz.f54 11) = dwh.T11 := by kernel_rfl
theorem dwh.bits11 : waitsOk dwh.T11.2 dwh.B11 = true := by kernel_rfl
set_option maxHeartbeats 8000000 in
set_option maxRecDepth 100000 in
theorem decHead_1_right (B : Nat) (pe pl : Addr) (a r g : Nat) (l : List UInt8) (w : World) (h : Rd r g l 0 w) (he : Env B pe pl w) (hBr : B ≤ r) (hB : B ≤ w.heap.size) (h8 : 0 + 8 ≤ l.length) (T : Int) (hT : wrap64 (wrap64 (Lib.beNat ((l.drop 0).take 8) : Nat) + -9223372036854775808) = T) (n : Nat) (ys : List S23) (p : Nat)
    (hw : ∀ (a : Option Addr) (W : World), Rd r g l (0 + 8) W → Env B pe pl W → B ≤ r → B ≤ W.heap.size → Calls Tryz.prog 159 #[.pointer a, rdI r] W fun e w' => ∃ gb, e = .returned (.tuple #[.slice (some ⟨gb, 0, none⟩) n n, .nilIface]) ∧ IfRow gb n ys w' ∧ ys.length = n ∧ W.heap.size ≤ gb ∧ W.grownBy w' (some r) ∧ Rd r g l p w') (t : Nat) (f la : Bool) (ix m : Int) (kk : Nat) (hp : rdPane (l.drop p) = .right t f la ix m kk) :
    Calls Tryz.prog 54 #[.iface 199 (.pointer (some ⟨a, 0, none⟩)), rdI r] w fun e w' => ∃ gb, e = .returned (.tuple #[.slice (some ⟨gb, 0, none⟩) n n, .int .i64 T, .agg #[.int .u8 (t : Nat), .bool f, .bool la, .int .i64 ix, .int .i64 m], .nilIface]) ∧ IfRow gb n ys w' ∧ ys.length = n ∧ w.grownBy w' (some r) ∧ Rd r g l (p + kk) w' := by
  have HRG := Lib.hid (And.intro h.lt h.ltg)
  have HZ := Lib.hid (heap_alloc_new w (.cells zP 119))
  have HE := Lib.hid (And.intro he (And.intro hBr hB))
  have hR0 : Rd r g l 0 (w.alloc (.cells zP 119)) := h.alloc _
  have hE0 : Env B pe pl (w.alloc (.cells zP 119)) := he.below ((Below.refl B w).alloc hB _)
  have hT0 := decTime_ok r g l 0 _ hR0 h8
  rw [hT] at hT0
  have HT := Lib.hid hT0
  have HW := Lib.hid hw
  have HP := Lib.hid hp
  have qm := mthF_1
  clear h he hBr hB h8 hR0 hE0 hw hp hT hT0
  go_enter Tryz.func54, Tryz.ntmps54
  go_wp2_with (first
    | (go_at_call 83; go_loud (refine HT.out.mono ?_; rintro e_ w1 ⟨rfl, hg, hr⟩; have HZ1 := Lib.hid ((hg.block _ (blk_lt HZ.out) (by intro e; cases e; have := HRG.out.1; omega)).trans HZ.out); have H1 := Lib.hid (And.intro (grown_trans (grown_alloc (grown_refl w) _) hg) hr); clear hg hr))
    | (go_at_call 159; go_loud (refine (HW.out (some ⟨a, 0, none⟩) w1 H1.out.2 (HE.out.1.below (grown_below H1.out.1 HE.out.2.2 HE.out.2.1)) HE.out.2.1 (Nat.le_trans HE.out.2.2 H1.out.1.size)).mono ?_; rintro e_ w2 ⟨gb, rfl, hrow, hyl, hgb, hg, hr⟩; have HZ2 := Lib.hid ((hg.block _ (blk_lt HZ1.out) (by intro e; cases e; have := HRG.out.1; omega)).trans HZ1.out); have HR2 := Lib.hid (And.intro hrow (And.intro hyl (show w.heap.size ≤ gb from Nat.le_trans H1.out.1.size hgb))); have H2 := Lib.hid (And.intro (grown_trans H1.out.1 hg) hr); clear hrow hyl hgb hg hr))
    | (go_at_call 85; go_loud (refine (decPane_right B pe pl r g l p w2 H2.out.2 (HE.out.1.below (grown_below H2.out.1 HE.out.2.2 HE.out.2.1)) HE.out.2.1 (Nat.le_trans HE.out.2.2 H2.out.1.size) t f la ix m kk HP.out).mono ?_; rintro e_ w3 ⟨rfl, hg, hr⟩; have HZ3 := Lib.hid ((hg.block _ (blk_lt HZ2.out) (by intro e; cases e; have := HRG.out.1; omega)).trans HZ2.out); have HR3 := Lib.hid (HR2.out.1.move (hg.block _ HR2.out.1.lt (by intro e; cases e; have := HRG.out.1; have := HR2.out.2.2; omega))); have H3 := Lib.hid (And.intro (grown_trans H2.out.1 hg) hr); have HR2L := Lib.hid HR2.out.2.1; clear hg hr)))
  have hlt3 : w.heap.size < w3.heap.size := blk_lt HZ3.out
  have HX4 := Lib.hid (show (w3.alloc (.cells #[.int .u8 (t : Nat), .bool f, .bool la, .int .i64 ix, .int .i64 m] 119)).drew.heap[w3.heap.size]? = some (.cells #[.int .u8 (t : Nat), .bool f, .bool la, .int .i64 ix, .int .i64 m] 119 (0, 0)) from heap_alloc_new w3 _)
  have HZ4 := Lib.hid (show (w3.alloc (.cells #[.int .u8 (t : Nat), .bool f, .bool la, .int .i64 ix, .int .i64 m] 119)).drew.heap[w.heap.size]? = some (.cells zP 119 (0, 0)) from blk_alloc HZ3.out _)
  have HR4 := Lib.hid (show IfRow gb n ys (w3.alloc (.cells #[.int .u8 (t : Nat), .bool f, .bool la, .int .i64 ix, .int .i64 m] 119)).drew from HR3.out.move (Below.heap_alloc _ _ _ HR3.out.lt))
  have H4 := Lib.hid (show w.grownBy (w3.alloc (.cells #[.int .u8 (t : Nat), .bool f, .bool la, .int .i64 ix, .int .i64 m] 119)).drew (some r) ∧ Rd r g l (p + kk) (w3.alloc (.cells #[.int .u8 (t : Nat), .bool f, .bool la, .int .i64 ix, .int .i64 m] 119)).drew from ⟨grown_drewN (grown_alloc H3.out.1 _) 1, (H3.out.2.alloc _).drewN 1⟩)
  have K4 := laid5 HX4.out
  obtain ⟨k0, k1, k2, k3, k4⟩ := laid5 HZ4.out
  obtain ⟨g0, g1, g2, g3, g4⟩ := open5 HZ4.out
  clear HZ HZ1 HZ2 HT HW HP H1 H2 HR2 qm
  refine start_ (n := 7) (S := fun w' => w'.cell? ⟨w3.heap.size, 0, none⟩ = some (.int .u8 (t : Nat)) ∧ w'.cell? ⟨w3.heap.size, 1, none⟩ = some (.bool f) ∧ w'.cell? ⟨w3.heap.size, 2, none⟩ = some (.bool la) ∧ w'.cell? ⟨w3.heap.size, 3, none⟩ = some (.int .i64 ix) ∧ w'.cell? ⟨w3.heap.size, 4, none⟩ = some (.int .i64 m)) (ds := [5]) #[false, false, false, false, false, false, false] (by kernel_rfl) rfl rfl K4 (fun hHeld => ?_)
  refine with_tabW dwh.tab11 dwh.bits11 (fun HT_ HW_ => ?_)
  generalize (w3.alloc (.cells #[.int .u8 (t : Nat), .bool f, .bool la, .int .i64 ix, .int .i64 m] 119)).drew = W at *
  refine pure_ (i := 0) (N := some 56) (v := ?_) (a' := ?_) #[true, false, false, false, false, false, false] rfl rfl (any_of HT_.out (by kernel_rfl)) (fun _ _ _ h => h) (Or.inl ⟨by rfl, ?_⟩) ?_ ?_
  rotate_left
  · intro w'
    go_simp
    with_reducible rfl
  rotate_left
  · simp only [Act.put, List.setIfInBounds_toArray, List.set_cons_zero, List.set_cons_succ, i64_w, i32_w]
    rfl
  refine pure_ (i := 1) (N := some 57) (v := ?_) (a' := ?_) #[true, true, false, false, false, false, false] rfl rfl (any_of HT_.out (by kernel_rfl)) (fun _ _ _ h => h) (Or.inl ⟨by rfl, ?_⟩) ?_ ?_
  rotate_left
  · intro w'
    go_simp
    with_reducible rfl
  rotate_left
  · simp only [Act.put, List.setIfInBounds_toArray, List.set_cons_zero, List.set_cons_succ, i64_w, i32_w]
    rfl
  refine pure_ (i := 3) (N := some 4) (v := ?_) (a' := ?_) #[true, true, false, true, false, false, false] rfl rfl (any_of HT_.out (by kernel_rfl)) (fun _ _ _ h => h) (Or.inl ⟨by rfl, ?_⟩) ?_ ?_
  rotate_left
  · intro w'
    go_simp
    with_reducible rfl
  rotate_left
  · simp only [Act.put, List.setIfInBounds_toArray, List.set_cons_zero, List.set_cons_succ, i64_w, i32_w]
    rfl
  refine pure_ (i := 4) (N := some 5) (v := ?_) (a' := ?_) #[true, true, false, true, true, false, false] rfl rfl (any_of HT_.out (by kernel_rfl)) (fun _ _ _ h => h) (Or.inl ⟨by rfl, ?_⟩) ?_ ?_
  rotate_left
  · intro w'
    go_simp
    with_reducible rfl
  rotate_left
  · simp only [Act.put, List.setIfInBounds_toArray, List.set_cons_zero, List.set_cons_succ, i64_w, i32_w]
    rfl
  refine take_ (i := 2) (N := some 58) (v := ?_) (a' := ?_) #[true, true, true, true, true, false, false] rfl rfl (take_ofW HT_.out HW_.out (by kernel_rfl)) (fun _ _ _ h => h) (Or.inl ⟨by rfl, ?_⟩) hHeld ?_ ?_
  rotate_left
  · rintro w' ⟨s0, s1, s2, s3, s4⟩
    go_simp
    with_reducible rfl
  rotate_left
  · simp only [Act.put, List.setIfInBounds_toArray, List.set_cons_zero, List.set_cons_succ, i64_w, i32_w]
    rfl
  refine last_ (i := 5) (N := none) #[true, true, true, true, true, true, false] rfl rfl (one_of HT_.out (by kernel_rfl)) (by decide) (fun K hK => ?_)
  refine skip_ (w1 := ?_) (by rfl) rfl ?_ ?_
  rotate_left
  · go_simp
    rfl
  refine hK.out _ _ ?_
  clear hK K
  refine pure_ (i := 6) (N := some 7) (v := ?_) (a' := ?_) #[true, true, true, true, true, true, true] rfl rfl (any_of HT_.out (by kernel_rfl)) (fun _ _ _ h => h) (Or.inl ⟨by rfl, ?_⟩) ?_ ?_
  rotate_left
  · intro w'
    go_simp
    with_reducible rfl
  rotate_left
  · simp only [Act.put, List.setIfInBounds_toArray, List.set_cons_zero, List.set_cons_succ, i64_w, i32_w]
    rfl
  refine done_ (done_of HT_.out (by kernel_rfl)) ?_
  go_wp2
  have HF := Lib.hid (pane_set HZ4.out (Nat.le_refl _) H4.out.1 H4.out.2 HRG.out.1 HRG.out.2 (.int .u8 (t : Nat)) (.bool f) (.bool la) (.int .i64 ix) (.int .i64 m))
  have HRF := Lib.hid (show IfRow gb n ys (((((W.setCell ⟨w.heap.size, 0, none⟩ (.int .u8 (t : Nat))).setCell ⟨w.heap.size, 1, none⟩ (.bool f)).setCell ⟨w.heap.size, 2, none⟩ (.bool la)).setCell ⟨w.heap.size, 3, none⟩ (.int .i64 ix)).setCell ⟨w.heap.size, 4, none⟩ (.int .i64 m)) from by
    have hne : gb ≠ w.heap.size := by
      intro e; obtain ⟨cs, h1, _⟩ := HR4.out; rw [e, HZ4.out] at h1; cases h1
    exact HR4.out.move ((Below.heap_setCell _ _ _ _ hne).trans ((Below.heap_setCell _ _ _ _ hne).trans ((Below.heap_setCell _ _ _ _ hne).trans ((Below.heap_setCell _ _ _ _ hne).trans (Below.heap_setCell _ _ _ _ hne))))))
  clear k0 k1 k2 k3 k4 g0 g1 g2 g3 g4
  generalize (((((W.setCell ⟨w.heap.size, 0, none⟩ (.int .u8 (t : Nat))).setCell ⟨w.heap.size, 1, none⟩ (.bool f)).setCell ⟨w.heap.size, 2, none⟩ (.bool la)).setCell ⟨w.heap.size, 3, none⟩ (.int .i64 ix)).setCell ⟨w.heap.size, 4, none⟩ (.int .i64 m)) = X at HF HRF ⊢
  obtain ⟨c0, c1, c2, c3, c4⟩ := laid5 HF.out.1
  exact bodyPost_ret (v := .tuple #[.slice (some ⟨gb, 0, none⟩) n n, .int .i64 T, .agg #[.int .u8 (t : Nat), .bool f, .bool la, .int .i64 ix, .int .i64 m], .nilIface]) (by simp [results, Tryz.results54, go_sem, c0, c1, c2, c3, c4]; try rfl) rfl ⟨gb, rfl, HRF.out, HR2L.out, HF.out.2.1, HF.out.2.2⟩
set_option maxHeartbeats 8000000 in
set_option maxRecDepth 100000 in
theorem decHead_0_right (B : Nat) (pe pl : Addr) (a r g : Nat) (l : List UInt8) (w : World) (h : Rd r g l 0 w) (he : Env B pe pl w) (hBr : B ≤ r) (hB : B ≤ w.heap.size) (h8 : 0 + 8 ≤ l.length) (T : Int) (hT : wrap64 (wrap64 (Lib.beNat ((l.drop 0).take 8) : Nat) + -9223372036854775808) = T) (n : Nat) (ys : List S23) (p : Nat)
    (hw : ∀ (a : Option Addr) (W : World), Rd r g l (0 + 8) W → Env B pe pl W → B ≤ r → B ≤ W.heap.size → Calls Tryz.prog 156 #[.pointer a, rdI r] W fun e w' => ∃ gb, e = .returned (.tuple #[.slice (some ⟨gb, 0, none⟩) n n, .nilIface]) ∧ IfRow gb n ys w' ∧ ys.length = n ∧ W.heap.size ≤ gb ∧ W.grownBy w' (some r) ∧ Rd r g l p w') (t : Nat) (f la : Bool) (ix m : Int) (kk : Nat) (hp : rdPane (l.drop p) = .right t f la ix m kk) :
    Calls Tryz.prog 54 #[.iface 197 (.pointer (some ⟨a, 0, none⟩)), rdI r] w fun e w' => ∃ gb, e = .returned (.tuple #[.slice (some ⟨gb, 0, none⟩) n n, .int .i64 T, .agg #[.int .u8 (t : Nat), .bool f, .bool la, .int .i64 ix, .int .i64 m], .nilIface]) ∧ IfRow gb n ys w' ∧ ys.length = n ∧ w.grownBy w' (some r) ∧ Rd r g l (p + kk) w' := by
  have HRG := Lib.hid (And.intro h.lt h.ltg)
  have HZ := Lib.hid (heap_alloc_new w (.cells zP 119))
  have HE := Lib.hid (And.intro he (And.intro hBr hB))
  have hR0 : Rd r g l 0 (w.alloc (.cells zP 119)) := h.alloc _
  have hE0 : Env B pe pl (w.alloc (.cells zP 119)) := he.below ((Below.refl B w).alloc hB _)
  have hT0 := decTime_ok r g l 0 _ hR0 h8
  rw [hT] at hT0
  have HT := Lib.hid hT0
  have HW := Lib.hid hw
  have HP := Lib.hid hp
  have qm := mthF_0
  clear h he hBr hB h8 hR0 hE0 hw hp hT hT0
  go_enter Tryz.func54, Tryz.ntmps54
  go_wp2_with (first
    | (go_at_call 83; go_loud (refine HT.out.mono ?_; rintro e_ w1 ⟨rfl, hg, hr⟩; have HZ1 := Lib.hid ((hg.block _ (blk_lt HZ.out) (by intro e; cases e; have := HRG.out.1; omega)).trans HZ.out); have H1 := Lib.hid (And.intro (grown_trans (grown_alloc (grown_refl w) _) hg) hr); clear hg hr))
    | (go_at_call 156; go_loud (refine (HW.out (some ⟨a, 0, none⟩) w1 H1.out.2 (HE.out.1.below (grown_below H1.out.1 HE.out.2.2 HE.out.2.1)) HE.out.2.1 (Nat.le_trans HE.out.2.2 H1.out.1.size)).mono ?_; rintro e_ w2 ⟨gb, rfl, hrow, hyl, hgb, hg, hr⟩; have HZ2 := Lib.hid ((hg.block _ (blk_lt HZ1.out) (by intro e; cases e; have := HRG.out.1; omega)).trans HZ1.out); have HR2 := Lib.hid (And.intro hrow (And.intro hyl (show w.heap.size ≤ gb from Nat.le_trans H1.out.1.size hgb))); have H2 := Lib.hid (And.intro (grown_trans H1.out.1 hg) hr); clear hrow hyl hgb hg hr))
    | (go_at_call 85; go_loud (refine (decPane_right B pe pl r g l p w2 H2.out.2 (HE.out.1.below (grown_below H2.out.1 HE.out.2.2 HE.out.2.1)) HE.out.2.1 (Nat.le_trans HE.out.2.2 H2.out.1.size) t f la ix m kk HP.out).mono ?_; rintro e_ w3 ⟨rfl, hg, hr⟩; have HZ3 := Lib.hid ((hg.block _ (blk_lt HZ2.out) (by intro e; cases e; have := HRG.out.1; omega)).trans HZ2.out); have HR3 := Lib.hid (HR2.out.1.move (hg.block _ HR2.out.1.lt (by intro e; cases e; have := HRG.out.1; have := HR2.out.2.2; omega))); have H3 := Lib.hid (And.intro (grown_trans H2.out.1 hg) hr); have HR2L := Lib.hid HR2.out.2.1; clear hg hr)))
  have hlt3 : w.heap.size < w3.heap.size := blk_lt HZ3.out
  have HX4 := Lib.hid (show (w3.alloc (.cells #[.int .u8 (t : Nat), .bool f, .bool la, .int .i64 ix, .int .i64 m] 119)).drew.heap[w3.heap.size]? = some (.cells #[.int .u8 (t : Nat), .bool f, .bool la, .int .i64 ix, .int .i64 m] 119 (0, 0)) from heap_alloc_new w3 _)
  have HZ4 := Lib.hid (show (w3.alloc (.cells #[.int .u8 (t : Nat), .bool f, .bool la, .int .i64 ix, .int .i64 m] 119)).drew.heap[w.heap.size]? = some (.cells zP 119 (0, 0)) from blk_alloc HZ3.out _)
  have HR4 := Lib.hid (show IfRow gb n ys (w3.alloc (.cells #[.int .u8 (t : Nat), .bool f, .bool la, .int .i64 ix, .int .i64 m] 119)).drew from HR3.out.move (Below.heap_alloc _ _ _ HR3.out.lt))
  have H4 := Lib.hid (show w.grownBy (w3.alloc (.cells #[.int .u8 (t : Nat), .bool f, .bool la, .int .i64 ix, .int .i64 m] 119)).drew (some r) ∧ Rd r g l (p + kk) (w3.alloc (.cells #[.int .u8 (t : Nat), .bool f, .bool la, .int .i64 ix, .int .i64 m] 119)).drew from ⟨grown_drewN (grown_alloc H3.out.1 _) 1, (H3.out.2.alloc _).drewN 1⟩)
  have K4 := laid5 HX4.out
  obtain ⟨k0, k1, k2, k3, k4⟩ := laid5 HZ4.out
  obtain ⟨g0, g1, g2, g3, g4⟩ := open5 HZ4.out
  clear HZ HZ1 HZ2 HT HW HP H1 H2 HR2 qm
  refine start_ (n := 7) (S := fun w' => w'.cell? ⟨w3.heap.size, 0, none⟩ = some (.int .u8 (t : Nat)) ∧ w'.cell? ⟨w3.heap.size, 1, none⟩ = some (.bool f) ∧ w'.cell? ⟨w3.heap.size, 2, none⟩ = some (.bool la) ∧ w'.cell? ⟨w3.heap.size, 3, none⟩ = some (.int .i64 ix) ∧ w'.cell? ⟨w3.heap.size, 4, none⟩ = some (.int .i64 m)) (ds := [5]) #[false, false, false, false, false, false, false] (by kernel_rfl) rfl rfl K4 (fun hHeld => ?_)
  refine with_tabW dwh.tab11 dwh.bits11 (fun HT_ HW_ => ?_)
  generalize (w3.alloc (.cells #[.int .u8 (t : Nat), .bool f, .bool la, .int .i64 ix, .int .i64 m] 119)).drew = W at *
  refine pure_ (i := 0) (N := some 56) (v := ?_) (a' := ?_) #[true, false, false, false, false, false, false] rfl rfl (any_of HT_.out (by kernel_rfl)) (fun _ _ _ h => h) (Or.inl ⟨by rfl, ?_⟩) ?_ ?_
  rotate_left
  · intro w'
    go_simp
    with_reducible rfl
  rotate_left
  · simp only [Act.put, List.setIfInBounds_toArray, List.set_cons_zero, List.set_cons_succ, i64_w, i32_w]
    rfl
  refine pure_ (i := 1) (N := some 57) (v := ?_) (a' := ?_) #[true, true, false, false, false, false, false] rfl rfl (any_of HT_.out (by kernel_rfl)) (fun _ _ _ h => h) (Or.inl ⟨by rfl, ?_⟩) ?_ ?_
  rotate_left
  · intro w'
    go_simp
    with_reducible rfl
  rotate_left
  · simp only [Act.put, List.setIfInBounds_toArray, List.set_cons_zero, List.set_cons_succ, i64_w, i32_w]
    rfl
  refine pure_ (i := 3) (N := some 4) (v := ?_) (a' := ?_) #[true, true, false, true, false, false, false] rfl rfl (any_of HT_.out (by kernel_rfl)) (fun _ _ _ h => h) (Or.inl ⟨by rfl, ?_⟩) ?_ ?_
  rotate_left
  · intro w'
    go_simp
    with_reducible rfl
  rotate_left
  · simp only [Act.put, List.setIfInBounds_toArray, List.set_cons_zero, List.set_cons_succ, i64_w, i32_w]
    rfl
  refine pure_ (i := 4) (N := some 5) (v := ?_) (a' := ?_) #[true, true, false, true, true, false, false] rfl rfl (any_of HT_.out (by kernel_rfl)) (fun _ _ _ h => h) (Or.inl ⟨by rfl, ?_⟩) ?_ ?_
  rotate_left
  · intro w'
    go_simp
    with_reducible rfl
  rotate_left
  · simp only [Act.put, List.setIfInBounds_toArray, List.set_cons_zero, List.set_cons_succ, i64_w, i32_w]
    rfl
  refine take_ (i := 2) (N := some 58) (v := ?_) (a' := ?_) #[true, true, true, true, true, false, false] rfl rfl (take_ofW HT_.out HW_.out (by kernel_rfl)) (fun _ _ _ h => h) (Or.inl ⟨by rfl, ?_⟩) hHeld ?_ ?_
  rotate_left
  · rintro w' ⟨s0, s1, s2, s3, s4⟩
    go_simp
    with_reducible rfl
  rotate_left
  · simp only [Act.put, List.setIfInBounds_toArray, List.set_cons_zero, List.set_cons_succ, i64_w, i32_w]
    rfl
  refine last_ (i := 5) (N := none) #[true, true, true, true, true, true, false] rfl rfl (one_of HT_.out (by kernel_rfl)) (by decide) (fun K hK => ?_)
  refine skip_ (w1 := ?_) (by rfl) rfl ?_ ?_
  rotate_left
  · go_simp
    rfl
  refine hK.out _ _ ?_
  clear hK K
  refine pure_ (i := 6) (N := some 7) (v := ?_) (a' := ?_) #[true, true, true, true, true, true, true] rfl rfl (any_of HT_.out (by kernel_rfl)) (fun _ _ _ h => h) (Or.inl ⟨by rfl, ?_⟩) ?_ ?_
  rotate_left
  · intro w'
    go_simp
    with_reducible rfl
  rotate_left
  · simp only [Act.put, List.setIfInBounds_toArray, List.set_cons_zero, List.set_cons_succ, i64_w, i32_w]
    rfl
  refine done_ (done_of HT_.out (by kernel_rfl)) ?_
  go_wp2
  have HF := Lib.hid (pane_set HZ4.out (Nat.le_refl _) H4.out.1 H4.out.2 HRG.out.1 HRG.out.2 (.int .u8 (t : Nat)) (.bool f) (.bool la) (.int .i64 ix) (.int .i64 m))
  have HRF := Lib.hid (show IfRow gb n ys (((((W.setCell ⟨w.heap.size, 0, none⟩ (.int .u8 (t : Nat))).setCell ⟨w.heap.size, 1, none⟩ (.bool f)).setCell ⟨w.heap.size, 2, none⟩ (.bool la)).setCell ⟨w.heap.size, 3, none⟩ (.int .i64 ix)).setCell ⟨w.heap.size, 4, none⟩ (.int .i64 m)) from by
    have hne : gb ≠ w.heap.size := by
      intro e; obtain ⟨cs, h1, _⟩ := HR4.out; rw [e, HZ4.out] at h1; cases h1
    exact HR4.out.move ((Below.heap_setCell _ _ _ _ hne).trans ((Below.heap_setCell _ _ _ _ hne).trans ((Below.heap_setCell _ _ _ _ hne).trans ((Below.heap_setCell _ _ _ _ hne).trans (Below.heap_setCell _ _ _ _ hne))))))
  clear k0 k1 k2 k3 k4 g0 g1 g2 g3 g4
  generalize (((((W.setCell ⟨w.heap.size, 0, none⟩ (.int .u8 (t : Nat))).setCell ⟨w.heap.size, 1, none⟩ (.bool f)).setCell ⟨w.heap.size, 2, none⟩ (.bool la)).setCell ⟨w.heap.size, 3, none⟩ (.int .i64 ix)).setCell ⟨w.heap.size, 4, none⟩ (.int .i64 m)) = X at HF HRF ⊢
  obtain ⟨c0, c1, c2, c3, c4⟩ := laid5 HF.out.1
  exact bodyPost_ret (v := .tuple #[.slice (some ⟨gb, 0, none⟩) n n, .int .i64 T, .agg #[.int .u8 (t : Nat), .bool f, .bool la, .int .i64 ix, .int .i64 m], .nilIface]) (by simp [results, Tryz.results54, go_sem, c0, c1, c2, c3, c4]; try rfl) rfl ⟨gb, rfl, HRF.out, HR2L.out, HF.out.2.1, HF.out.2.2⟩
end Go.Proofs.YtgdbeiadlgkedaaGreatDoor
set_option linter.unusedVariables false
set_option linter.unusedSimpArgs false
namespace Go.Proofs.YtgdbeiadlgkedaaGreatDoor
open Go.RowKit Go.Proofs.YtgdbeiadlgkedaaGreatDoorW.PrintWords Go.Proofs.YtgdbeiadlgkedaaGreatDoorW.PrintLast Go.Proofs.YtgdbeiadlgkedaaGreatDoorW.PrintMore
theorem kept100 {b k : Nat} {cs : Array Value} {w w' : World} (h : Lib.OthersKept 5 (some b) w w') (hk : w.heap[k]? = some (.cells cs 119 (0, 0))) (hne : k ≠ b) : w'.heap[k]? = some (.cells cs 119 (0, 0)) :=
  h k _ hk (by simpa using hne) (fun c fz e => by injection e with _ e _; exact absurd e (by decide))
theorem one_wr (B b : Nat) (l0 : List UInt8) (m : Nat) (hm : m < 256) (w : World) (cs : Array Value) (h : Bf B b l0 w) (hlim : l0.length + 1 ≤ 140737488355328) :
    Calls Tryz.prog 135 #[.pointer (some ⟨b, 0, none⟩), .slice (some ⟨w.heap.size + 1, 0, none⟩) 1 1] ((w.alloc (.cells cs 119)).alloc (.cells #[.int .u8 (m : Int)] 5)) fun e w' => e = .returned (.tuple #[.int .i64 1, .nilIface]) ∧ Bf B b (l0 ++ [m.toUInt8]) w' ∧ Below B w w' ∧ w'.heap[w.heap.size]? = some (.cells cs 119 (0, 0)) := by
  have hb : Below w.heap.size w ((w.alloc (.cells cs 119)).alloc (.cells #[.int .u8 (m : Int)] 5)) := ((Below.refl _ w).alloc (Nat.le_refl _) _).alloc (by simp) _
  have hs := h.size
  have hlt := h.lt
  have hx : ((w.alloc (.cells cs 119)).alloc (.cells #[.int .u8 (m : Int)] 5)).heap[w.heap.size]? = some (.cells cs 119 (0, 0)) := blk_alloc (heap_alloc_new w (.cells cs 119)) _
  refine (write_any B b l0 [m.toUInt8] ⟨w.heap.size + 1, 0, none⟩ 1 1 _ (h.old hb) rfl (by show w.heap.size + 1 ≠ b; omega) (At.mk fun j x hj => ?_) hlim).mono fun e w' ⟨h1, h2, h3, h4⟩ => ⟨h1, h2, Below.lower hb hs h3, kept100 h4 hx (by omega)⟩
  have hn := heap_alloc_new (w.alloc (.cells cs 119)) (.cells #[.int .u8 (m : Int)] 5)
  rw [World.size_alloc] at hn
  rw [blk_cell hn j]
  cases j with
  | zero => simp at hj; subst hj; simp [Nat.toUInt8, UInt8.toNat_ofNat', Nat.mod_eq_of_lt hm]
  | succ j => simp at hj
theorem hd_enc : ∀ (t : Fin 4) (f l : Bool), Go.bits .or .u8 (if l then Go.bits .or .u8 (if f then Go.bits .or .u8 0 1 else 0) 2 else (if f then Go.bits .or .u8 0 1 else 0)) (((t : Nat) : Int) * 4) = (phead t f l : Int) := by decide +kernel
set_option maxHeartbeats 2000000 in
set_option maxRecDepth 100000 in
theorem encPane_a1 (B b : Nat) (t : Nat) (ht : t < 4) (f l : Bool) (i n : Int) (hi : i = 0) (hn : n = 0) (l0 : List UInt8) (w : World) (h : Bf B b l0 w) (hlim : l0.length + 100 ≤ 140737488355328) :
    Calls Tryz.prog 70 #[.agg #[.int .u8 t, .bool f, .bool l, .int .i64 i, .int .i64 n], bfI b] w fun e w' => e = .returned .nilIface ∧ Bf B b (l0 ++ [(phead t f l).toUInt8]) w' ∧ Below B w w' := by
  have H := Lib.hid h
  have HL := Lib.hid hlim
  have P1 := hd_enc ⟨t, ht⟩ f l
  have O16 := or16 ⟨phead t f l, phead_lt ht f l⟩
  have O32 := or32 ⟨phead t f l, phead_lt ht f l⟩
  have hp := phead_lt ht f l
  simp only at P1 O16 O32
  generalize phead t f l = ph at P1 O16 O32 hp ⊢
  obtain ⟨m16, h16⟩ : ∃ m, ph + 16 = m := ⟨_, rfl⟩
  obtain ⟨m32, h32⟩ : ∃ m, ph + 32 = m := ⟨_, rfl⟩
  rw [h16] at O16
  rw [h32] at O32
  try rw [h16]
  try rw [h32]
  have HM := Lib.hid (And.intro hp (And.intro h16 h32))
  clear h hlim hp h16 h32
  subst hi
  subst hn
  cases f <;> cases l <;> (
    simp only [Bool.false_eq_true, if_false, if_true] at P1
    go_enter Tryz.func70, Tryz.ntmps70
    go_wp2_with (first
      | (go_at_call 135; (refine (one_wr B b l0 ph (by have := HM.out; omega) w _ H.out (by have := HL.out; omega)).mono ?_; rintro e_ w1 ⟨rfl, h1, h2, h3⟩; have H1 := Lib.hid h1; have H2 := Lib.hid h2; have HX := Lib.hid h3; have x3 := (blk_cell h3 3).trans (rfl : _ = some (Value.int .i64 (0))); have x4 := (blk_cell h3 4).trans (rfl : _ = some (Value.int .i64 (0))); clear h1 h2 h3)))
    go_ret
    exact ⟨rfl, H1.out, H2.out⟩)
set_option maxHeartbeats 2000000 in
set_option maxRecDepth 100000 in
theorem encPane_a2 (B b : Nat) (t : Nat) (ht : t < 4) (f l : Bool) (i n : Int) (ht3 : t = 3) (hi : i ≠ 0) (l0 : List UInt8) (w : World) (h : Bf B b l0 w) (hlim : l0.length + 100 ≤ 140737488355328) :
    Calls Tryz.prog 70 #[.agg #[.int .u8 t, .bool f, .bool l, .int .i64 i, .int .i64 n], bfI b] w fun e w' => e = .returned .nilIface ∧ Bf B b (l0 ++ [(phead t f l).toUInt8]) w' ∧ Below B w w' := by
  have H := Lib.hid h
  have HL := Lib.hid hlim
  have P1 := hd_enc ⟨t, ht⟩ f l
  have O16 := or16 ⟨phead t f l, phead_lt ht f l⟩
  have O32 := or32 ⟨phead t f l, phead_lt ht f l⟩
  have hp := phead_lt ht f l
  simp only at P1 O16 O32
  generalize phead t f l = ph at P1 O16 O32 hp ⊢
  obtain ⟨m16, h16⟩ : ∃ m, ph + 16 = m := ⟨_, rfl⟩
  obtain ⟨m32, h32⟩ : ∃ m, ph + 32 = m := ⟨_, rfl⟩
  rw [h16] at O16
  rw [h32] at O32
  try rw [h16]
  try rw [h32]
  have HM := Lib.hid (And.intro hp (And.intro h16 h32))
  clear h hlim hp h16 h32
  have k3 : ((t : Int) == 3) = true := beq_iff_eq.2 (by omega)
  have qi : (i == 0) = false := beq_eq_false_iff_ne.2 (hi)
  clear hi ht3
  cases f <;> cases l <;> (
    simp only [Bool.false_eq_true, if_false, if_true] at P1
    go_enter Tryz.func70, Tryz.ntmps70
    go_wp2_with (first
      | (go_at_call 135; (refine (one_wr B b l0 ph (by have := HM.out; omega) w _ H.out (by have := HL.out; omega)).mono ?_; rintro e_ w1 ⟨rfl, h1, h2, h3⟩; have H1 := Lib.hid h1; have H2 := Lib.hid h2; have HX := Lib.hid h3; have x3 := (blk_cell h3 3).trans (rfl : _ = some (Value.int .i64 (i))); have x4 := (blk_cell h3 4).trans (rfl : _ = some (Value.int .i64 (n))); clear h1 h2 h3)))
    go_ret
    exact ⟨rfl, H1.out, H2.out⟩)
set_option maxHeartbeats 2000000 in
set_option maxRecDepth 100000 in
theorem encPane_a3 (B b : Nat) (t : Nat) (ht : t < 4) (f l : Bool) (i n : Int) (ht3 : t = 3) (hi : i = 0) (hn : n ≠ 0) (l0 : List UInt8) (w : World) (h : Bf B b l0 w) (hlim : l0.length + 100 ≤ 140737488355328) :
    Calls Tryz.prog 70 #[.agg #[.int .u8 t, .bool f, .bool l, .int .i64 i, .int .i64 n], bfI b] w fun e w' => e = .returned .nilIface ∧ Bf B b (l0 ++ [(phead t f l).toUInt8]) w' ∧ Below B w w' := by
  have H := Lib.hid h
  have HL := Lib.hid hlim
  have P1 := hd_enc ⟨t, ht⟩ f l
  have O16 := or16 ⟨phead t f l, phead_lt ht f l⟩
  have O32 := or32 ⟨phead t f l, phead_lt ht f l⟩
  have hp := phead_lt ht f l
  simp only at P1 O16 O32
  generalize phead t f l = ph at P1 O16 O32 hp ⊢
  obtain ⟨m16, h16⟩ : ∃ m, ph + 16 = m := ⟨_, rfl⟩
  obtain ⟨m32, h32⟩ : ∃ m, ph + 32 = m := ⟨_, rfl⟩
  rw [h16] at O16
  rw [h32] at O32
  try rw [h16]
  try rw [h32]
  have HM := Lib.hid (And.intro hp (And.intro h16 h32))
  clear h hlim hp h16 h32
  subst hi
  have k3 : ((t : Int) == 3) = true := beq_iff_eq.2 (by omega)
  have qn : (n == 0) = false := beq_eq_false_iff_ne.2 (hn)
  clear hn ht3
  cases f <;> cases l <;> (
    simp only [Bool.false_eq_true, if_false, if_true] at P1
    go_enter Tryz.func70, Tryz.ntmps70
    go_wp2_with (first
      | (go_at_call 135; (refine (one_wr B b l0 ph (by have := HM.out; omega) w _ H.out (by have := HL.out; omega)).mono ?_; rintro e_ w1 ⟨rfl, h1, h2, h3⟩; have H1 := Lib.hid h1; have H2 := Lib.hid h2; have HX := Lib.hid h3; have x3 := (blk_cell h3 3).trans (rfl : _ = some (Value.int .i64 (0))); have x4 := (blk_cell h3 4).trans (rfl : _ = some (Value.int .i64 (n))); clear h1 h2 h3)))
    go_ret
    exact ⟨rfl, H1.out, H2.out⟩)
set_option maxHeartbeats 2000000 in
set_option maxRecDepth 100000 in
theorem encPane_b1 (B b : Nat) (t : Nat) (ht : t < 4) (f l : Bool) (i n : Int) (ht3 : t ≠ 3) (ht0 : t ≠ 0) (hi : i ≠ 0) (hin : i = n) (l0 : List UInt8) (w : World) (h : Bf B b l0 w) (hlim : l0.length + 100 ≤ 140737488355328) :
    Calls Tryz.prog 70 #[.agg #[.int .u8 t, .bool f, .bool l, .int .i64 i, .int .i64 n], bfI b] w fun e w' => e = .returned .nilIface ∧ Bf B b (l0 ++ ((phead t f l + 16).toUInt8 :: Lib.uvarint (u64of i))) w' ∧ Below B w w' := by
  have H := Lib.hid h
  have HL := Lib.hid hlim
  have P1 := hd_enc ⟨t, ht⟩ f l
  have O16 := or16 ⟨phead t f l, phead_lt ht f l⟩
  have O32 := or32 ⟨phead t f l, phead_lt ht f l⟩
  have hp := phead_lt ht f l
  simp only at P1 O16 O32
  generalize phead t f l = ph at P1 O16 O32 hp ⊢
  obtain ⟨m16, h16⟩ : ∃ m, ph + 16 = m := ⟨_, rfl⟩
  obtain ⟨m32, h32⟩ : ∃ m, ph + 32 = m := ⟨_, rfl⟩
  rw [h16] at O16
  rw [h32] at O32
  try rw [h16]
  try rw [h32]
  have HM := Lib.hid (And.intro hp (And.intro h16 h32))
  clear h hlim hp h16 h32
  subst hin
  have k3 : ((t : Int) == 3) = false := beq_eq_false_iff_ne.2 (by omega)
  have k0 : ((t : Int) == 0) = false := beq_eq_false_iff_ne.2 (by omega)
  have qi : (i == 0) = false := beq_eq_false_iff_ne.2 (hi)
  clear hi ht3 ht0
  cases f <;> cases l <;> (
    simp only [Bool.false_eq_true, if_false, if_true] at P1
    go_enter Tryz.func70, Tryz.ntmps70
    go_wp2_with (first
      | (go_at_call 135; (refine (one_wr B b l0 m16 (by have := HM.out; omega) w _ H.out (by have := HL.out; omega)).mono ?_; rintro e_ w1 ⟨rfl, h1, h2, h3⟩; have H1 := Lib.hid h1; have H2 := Lib.hid h2; have HX := Lib.hid h3; have x3 := (blk_cell h3 3).trans (rfl : _ = some (Value.int .i64 (i))); have x4 := (blk_cell h3 4).trans (rfl : _ = some (Value.int .i64 (i))); clear h1 h2 h3))
      | (go_at_call 76; (with_reducible refine (encVarI_any B b (i) _ w1 H1.out (by have := HL.out; simp only [List.length_append, List.length_singleton]; omega)).mono ?_); rintro e_ w2 ⟨rfl, h1, h2, h3⟩; have H3 := Lib.hid h1; have H4 := Lib.hid (H2.out.trans h2); have hx := kept100 h3 HX.out (by have := H.out.lt; omega); have x4 := (blk_cell hx 4).trans (rfl : _ = some (Value.int .i64 (i))); clear h1 h2 h3 hx))
    go_ret
    exact ⟨rfl, by have h := H3.out; rw [List.append_assoc] at h; exact h, H4.out⟩)
end Go.Proofs.YtgdbeiadlgkedaaGreatDoor
set_option linter.unusedVariables false
set_option linter.unusedSimpArgs false
namespace Go.Proofs.YtgdbeiadlgkedaaGreatDoor
open Go.RowKit Go.Proofs.YtgdbeiadlgkedaaGreatDoorW.PrintWords Go.Proofs.YtgdbeiadlgkedaaGreatDoorW.PrintLast Go.Proofs.YtgdbeiadlgkedaaGreatDoorW.PrintMore
set_option maxHeartbeats 2000000 in
set_option maxRecDepth 100000 in
theorem encPane_b2 (B b : Nat) (t : Nat) (ht : t < 4) (f l : Bool) (i n : Int) (ht0 : t = 0) (hi : i ≠ 0) (hi1 : i ≠ -1) (hn : n = -1) (l0 : List UInt8) (w : World) (h : Bf B b l0 w) (hlim : l0.length + 100 ≤ 140737488355328) :
    Calls Tryz.prog 70 #[.agg #[.int .u8 t, .bool f, .bool l, .int .i64 i, .int .i64 n], bfI b] w fun e w' => e = .returned .nilIface ∧ Bf B b (l0 ++ ((phead t f l + 16).toUInt8 :: Lib.uvarint (u64of i))) w' ∧ Below B w w' := by
  have H := Lib.hid h
  have HL := Lib.hid hlim
  have P1 := hd_enc ⟨t, ht⟩ f l
  have O16 := or16 ⟨phead t f l, phead_lt ht f l⟩
  have O32 := or32 ⟨phead t f l, phead_lt ht f l⟩
  have hp := phead_lt ht f l
  simp only at P1 O16 O32
  generalize phead t f l = ph at P1 O16 O32 hp ⊢
  obtain ⟨m16, h16⟩ : ∃ m, ph + 16 = m := ⟨_, rfl⟩
  obtain ⟨m32, h32⟩ : ∃ m, ph + 32 = m := ⟨_, rfl⟩
  rw [h16] at O16
  rw [h32] at O32
  try rw [h16]
  try rw [h32]
  have HM := Lib.hid (And.intro hp (And.intro h16 h32))
  clear h hlim hp h16 h32
  subst hn
  have qi1 : (i == -1) = false := beq_eq_false_iff_ne.2 (hi1)
  have k3 : ((t : Int) == 3) = false := beq_eq_false_iff_ne.2 (by omega)
  have k0 : ((t : Int) == 0) = true := beq_iff_eq.2 (by omega)
  have qi : (i == 0) = false := beq_eq_false_iff_ne.2 (hi)
  clear hi hi1 ht0
  cases f <;> cases l <;> (
    simp only [Bool.false_eq_true, if_false, if_true] at P1
    go_enter Tryz.func70, Tryz.ntmps70
    go_wp2_with (first
      | (go_at_call 135; (refine (one_wr B b l0 m16 (by have := HM.out; omega) w _ H.out (by have := HL.out; omega)).mono ?_; rintro e_ w1 ⟨rfl, h1, h2, h3⟩; have H1 := Lib.hid h1; have H2 := Lib.hid h2; have HX := Lib.hid h3; have x3 := (blk_cell h3 3).trans (rfl : _ = some (Value.int .i64 (i))); have x4 := (blk_cell h3 4).trans (rfl : _ = some (Value.int .i64 (-1))); clear h1 h2 h3))
      | (go_at_call 76; (with_reducible refine (encVarI_any B b (i) _ w1 H1.out (by have := HL.out; simp only [List.length_append, List.length_singleton]; omega)).mono ?_); rintro e_ w2 ⟨rfl, h1, h2, h3⟩; have H3 := Lib.hid h1; have H4 := Lib.hid (H2.out.trans h2); have hx := kept100 h3 HX.out (by have := H.out.lt; omega); have x4 := (blk_cell hx 4).trans (rfl : _ = some (Value.int .i64 (-1))); clear h1 h2 h3 hx))
    go_ret
    exact ⟨rfl, by have h := H3.out; rw [List.append_assoc] at h; exact h, H4.out⟩)
set_option maxHeartbeats 2000000 in
set_option maxRecDepth 100000 in
theorem encPane_b3 (B b : Nat) (t : Nat) (ht : t < 4) (f l : Bool) (i n : Int) (ht0 : t = 0) (hi : i = 0) (hn : n = -1) (l0 : List UInt8) (w : World) (h : Bf B b l0 w) (hlim : l0.length + 100 ≤ 140737488355328) :
    Calls Tryz.prog 70 #[.agg #[.int .u8 t, .bool f, .bool l, .int .i64 i, .int .i64 n], bfI b] w fun e w' => e = .returned .nilIface ∧ Bf B b (l0 ++ ((phead t f l + 16).toUInt8 :: Lib.uvarint (u64of i))) w' ∧ Below B w w' := by
  have H := Lib.hid h
  have HL := Lib.hid hlim
  have P1 := hd_enc ⟨t, ht⟩ f l
  have O16 := or16 ⟨phead t f l, phead_lt ht f l⟩
  have O32 := or32 ⟨phead t f l, phead_lt ht f l⟩
  have hp := phead_lt ht f l
  simp only at P1 O16 O32
  generalize phead t f l = ph at P1 O16 O32 hp ⊢
  obtain ⟨m16, h16⟩ : ∃ m, ph + 16 = m := ⟨_, rfl⟩
  obtain ⟨m32, h32⟩ : ∃ m, ph + 32 = m := ⟨_, rfl⟩
  rw [h16] at O16
  rw [h32] at O32
  try rw [h16]
  try rw [h32]
  have HM := Lib.hid (And.intro hp (And.intro h16 h32))
  clear h hlim hp h16 h32
  subst hn
  subst hi
  have k3 : ((t : Int) == 3) = false := beq_eq_false_iff_ne.2 (by omega)
  have k0 : ((t : Int) == 0) = true := beq_iff_eq.2 (by omega)
  clear ht0
  cases f <;> cases l <;> (
    simp only [Bool.false_eq_true, if_false, if_true] at P1
    go_enter Tryz.func70, Tryz.ntmps70
    go_wp2_with (first
      | (go_at_call 135; (refine (one_wr B b l0 m16 (by have := HM.out; omega) w _ H.out (by have := HL.out; omega)).mono ?_; rintro e_ w1 ⟨rfl, h1, h2, h3⟩; have H1 := Lib.hid h1; have H2 := Lib.hid h2; have HX := Lib.hid h3; have x3 := (blk_cell h3 3).trans (rfl : _ = some (Value.int .i64 (0))); have x4 := (blk_cell h3 4).trans (rfl : _ = some (Value.int .i64 (-1))); clear h1 h2 h3))
      | (go_at_call 76; (with_reducible refine (encVarI_any B b (0) _ w1 H1.out (by have := HL.out; simp only [List.length_append, List.length_singleton]; omega)).mono ?_); rintro e_ w2 ⟨rfl, h1, h2, h3⟩; have H3 := Lib.hid h1; have H4 := Lib.hid (H2.out.trans h2); have hx := kept100 h3 HX.out (by have := H.out.lt; omega); have x4 := (blk_cell hx 4).trans (rfl : _ = some (Value.int .i64 (-1))); clear h1 h2 h3 hx))
    go_ret
    exact ⟨rfl, by have h := H3.out; rw [List.append_assoc] at h; exact h, H4.out⟩)
set_option maxHeartbeats 2000000 in
set_option maxRecDepth 100000 in
theorem encPane_b4 (B b : Nat) (t : Nat) (ht : t < 4) (f l : Bool) (i n : Int) (ht0 : t = 0) (hi : i = -1) (hn : n = -1) (l0 : List UInt8) (w : World) (h : Bf B b l0 w) (hlim : l0.length + 100 ≤ 140737488355328) :
    Calls Tryz.prog 70 #[.agg #[.int .u8 t, .bool f, .bool l, .int .i64 i, .int .i64 n], bfI b] w fun e w' => e = .returned .nilIface ∧ Bf B b (l0 ++ ((phead t f l + 16).toUInt8 :: Lib.uvarint (u64of i))) w' ∧ Below B w w' := by
  have H := Lib.hid h
  have HL := Lib.hid hlim
  have P1 := hd_enc ⟨t, ht⟩ f l
  have O16 := or16 ⟨phead t f l, phead_lt ht f l⟩
  have O32 := or32 ⟨phead t f l, phead_lt ht f l⟩
  have hp := phead_lt ht f l
  simp only at P1 O16 O32
  generalize phead t f l = ph at P1 O16 O32 hp ⊢
  obtain ⟨m16, h16⟩ : ∃ m, ph + 16 = m := ⟨_, rfl⟩
  obtain ⟨m32, h32⟩ : ∃ m, ph + 32 = m := ⟨_, rfl⟩
  rw [h16] at O16
  rw [h32] at O32
  try rw [h16]
  try rw [h32]
  have HM := Lib.hid (And.intro hp (And.intro h16 h32))
  clear h hlim hp h16 h32
  subst hn
  subst hi
  have k3 : ((t : Int) == 3) = false := beq_eq_false_iff_ne.2 (by omega)
  have k0 : ((t : Int) == 0) = true := beq_iff_eq.2 (by omega)
  clear ht0
  cases f <;> cases l <;> (
    simp only [Bool.false_eq_true, if_false, if_true] at P1
    go_enter Tryz.func70, Tryz.ntmps70
    go_wp2_with (first
      | (go_at_call 135; (refine (one_wr B b l0 m16 (by have := HM.out; omega) w _ H.out (by have := HL.out; omega)).mono ?_; rintro e_ w1 ⟨rfl, h1, h2, h3⟩; have H1 := Lib.hid h1; have H2 := Lib.hid h2; have HX := Lib.hid h3; have x3 := (blk_cell h3 3).trans (rfl : _ = some (Value.int .i64 (-1))); have x4 := (blk_cell h3 4).trans (rfl : _ = some (Value.int .i64 (-1))); clear h1 h2 h3))
      | (go_at_call 76; (with_reducible refine (encVarI_any B b (-1) _ w1 H1.out (by have := HL.out; simp only [List.length_append, List.length_singleton]; omega)).mono ?_); rintro e_ w2 ⟨rfl, h1, h2, h3⟩; have H3 := Lib.hid h1; have H4 := Lib.hid (H2.out.trans h2); have hx := kept100 h3 HX.out (by have := H.out.lt; omega); have x4 := (blk_cell hx 4).trans (rfl : _ = some (Value.int .i64 (-1))); clear h1 h2 h3 hx))
    go_ret
    exact ⟨rfl, by have h := H3.out; rw [List.append_assoc] at h; exact h, H4.out⟩)
set_option maxHeartbeats 2000000 in
set_option maxRecDepth 100000 in
theorem encPane_c1 (B b : Nat) (t : Nat) (ht : t < 4) (f l : Bool) (i n : Int) (ht3 : t ≠ 3) (ht0 : t ≠ 0) (hi : i ≠ 0) (hin : i ≠ n) (l0 : List UInt8) (w : World) (h : Bf B b l0 w) (hlim : l0.length + 100 ≤ 140737488355328) :
    Calls Tryz.prog 70 #[.agg #[.int .u8 t, .bool f, .bool l, .int .i64 i, .int .i64 n], bfI b] w fun e w' => e = .returned .nilIface ∧ Bf B b (l0 ++ ((phead t f l + 32).toUInt8 :: (Lib.uvarint (u64of i) ++ Lib.uvarint (u64of n)))) w' ∧ Below B w w' := by
  have H := Lib.hid h
  have HL := Lib.hid hlim
  have P1 := hd_enc ⟨t, ht⟩ f l
  have O16 := or16 ⟨phead t f l, phead_lt ht f l⟩
  have O32 := or32 ⟨phead t f l, phead_lt ht f l⟩
  have hp := phead_lt ht f l
  simp only at P1 O16 O32
  generalize phead t f l = ph at P1 O16 O32 hp ⊢
  obtain ⟨m16, h16⟩ : ∃ m, ph + 16 = m := ⟨_, rfl⟩
  obtain ⟨m32, h32⟩ : ∃ m, ph + 32 = m := ⟨_, rfl⟩
  rw [h16] at O16
  rw [h32] at O32
  try rw [h16]
  try rw [h32]
  have HM := Lib.hid (And.intro hp (And.intro h16 h32))
  clear h hlim hp h16 h32
  have k3 : ((t : Int) == 3) = false := beq_eq_false_iff_ne.2 (by omega)
  have k0 : ((t : Int) == 0) = false := beq_eq_false_iff_ne.2 (by omega)
  have qi : (i == 0) = false := beq_eq_false_iff_ne.2 (hi)
  have qin : (i == n) = false := beq_eq_false_iff_ne.2 (hin)
  clear hi ht3 ht0 hin
  cases f <;> cases l <;> (
    simp only [Bool.false_eq_true, if_false, if_true] at P1
    go_enter Tryz.func70, Tryz.ntmps70
    go_wp2_with (first
      | (go_at_call 135; (refine (one_wr B b l0 m32 (by have := HM.out; omega) w _ H.out (by have := HL.out; omega)).mono ?_; rintro e_ w1 ⟨rfl, h1, h2, h3⟩; have H1 := Lib.hid h1; have H2 := Lib.hid h2; have HX := Lib.hid h3; have x3 := (blk_cell h3 3).trans (rfl : _ = some (Value.int .i64 (i))); have x4 := (blk_cell h3 4).trans (rfl : _ = some (Value.int .i64 (n))); clear h1 h2 h3))
      | (go_at_call 76; (with_reducible refine (encVarI_any B b (i) _ w1 H1.out (by have := HL.out; simp only [List.length_append, List.length_singleton]; omega)).mono ?_); rintro e_ w2 ⟨rfl, h1, h2, h3⟩; have H3 := Lib.hid h1; have H4 := Lib.hid (H2.out.trans h2); have hx := kept100 h3 HX.out (by have := H.out.lt; omega); have x4 := (blk_cell hx 4).trans (rfl : _ = some (Value.int .i64 (n))); clear h1 h2 h3 hx)
      | (go_at_call 76; (with_reducible refine (encVarI_any B b (n) _ w2 H3.out (by have := HL.out; have := Lib.uvarint_length64 (u64of_lt (i)); simp only [List.length_append, List.length_singleton]; omega)).mono ?_); rintro e_ w3 ⟨rfl, h1, h2, _⟩; have H5 := Lib.hid h1; have H6 := Lib.hid (H4.out.trans h2); clear h1 h2))
    go_ret
    exact ⟨rfl, by have h := H5.out; rw [List.append_assoc, List.append_assoc] at h; exact h, H6.out⟩)
end Go.Proofs.YtgdbeiadlgkedaaGreatDoor
set_option linter.unusedVariables false
set_option linter.unusedSimpArgs false
namespace Go.Proofs.YtgdbeiadlgkedaaGreatDoor
open Go.RowKit Go.Proofs.YtgdbeiadlgkedaaGreatDoorW.PrintWords Go.Proofs.YtgdbeiadlgkedaaGreatDoorW.PrintLast Go.Proofs.YtgdbeiadlgkedaaGreatDoorW.PrintMore
set_option maxHeartbeats 2000000 in
set_option maxRecDepth 100000 in
theorem encPane_c2 (B b : Nat) (t : Nat) (ht : t < 4) (f l : Bool) (i n : Int) (ht3 : t ≠ 3) (ht0 : t ≠ 0) (hi : i = 0) (hn : n ≠ 0) (l0 : List UInt8) (w : World) (h : Bf B b l0 w) (hlim : l0.length + 100 ≤ 140737488355328) :
    Calls Tryz.prog 70 #[.agg #[.int .u8 t, .bool f, .bool l, .int .i64 i, .int .i64 n], bfI b] w fun e w' => e = .returned .nilIface ∧ Bf B b (l0 ++ ((phead t f l + 32).toUInt8 :: (Lib.uvarint (u64of i) ++ Lib.uvarint (u64of n)))) w' ∧ Below B w w' := by
  have H := Lib.hid h
  have HL := Lib.hid hlim
  have P1 := hd_enc ⟨t, ht⟩ f l
  have O16 := or16 ⟨phead t f l, phead_lt ht f l⟩
  have O32 := or32 ⟨phead t f l, phead_lt ht f l⟩
  have hp := phead_lt ht f l
  simp only at P1 O16 O32
  generalize phead t f l = ph at P1 O16 O32 hp ⊢
  obtain ⟨m16, h16⟩ : ∃ m, ph + 16 = m := ⟨_, rfl⟩
  obtain ⟨m32, h32⟩ : ∃ m, ph + 32 = m := ⟨_, rfl⟩
  rw [h16] at O16
  rw [h32] at O32
  try rw [h16]
  try rw [h32]
  have HM := Lib.hid (And.intro hp (And.intro h16 h32))
  clear h hlim hp h16 h32
  have k3 : ((t : Int) == 3) = false := beq_eq_false_iff_ne.2 (by omega)
  have k0 : ((t : Int) == 0) = false := beq_eq_false_iff_ne.2 (by omega)
  subst hi
  have qn : (n == 0) = false := beq_eq_false_iff_ne.2 (hn)
  have qin : ((0 : Int) == n) = false := beq_eq_false_iff_ne.2 (fun e => hn e.symm)
  clear hn ht3 ht0
  cases f <;> cases l <;> (
    simp only [Bool.false_eq_true, if_false, if_true] at P1
    go_enter Tryz.func70, Tryz.ntmps70
    go_wp2_with (first
      | (go_at_call 135; (refine (one_wr B b l0 m32 (by have := HM.out; omega) w _ H.out (by have := HL.out; omega)).mono ?_; rintro e_ w1 ⟨rfl, h1, h2, h3⟩; have H1 := Lib.hid h1; have H2 := Lib.hid h2; have HX := Lib.hid h3; have x3 := (blk_cell h3 3).trans (rfl : _ = some (Value.int .i64 (0))); have x4 := (blk_cell h3 4).trans (rfl : _ = some (Value.int .i64 (n))); clear h1 h2 h3))
      | (go_at_call 76; (with_reducible refine (encVarI_any B b (0) _ w1 H1.out (by have := HL.out; simp only [List.length_append, List.length_singleton]; omega)).mono ?_); rintro e_ w2 ⟨rfl, h1, h2, h3⟩; have H3 := Lib.hid h1; have H4 := Lib.hid (H2.out.trans h2); have hx := kept100 h3 HX.out (by have := H.out.lt; omega); have x4 := (blk_cell hx 4).trans (rfl : _ = some (Value.int .i64 (n))); clear h1 h2 h3 hx)
      | (go_at_call 76; (with_reducible refine (encVarI_any B b (n) _ w2 H3.out (by have := HL.out; have := Lib.uvarint_length64 (u64of_lt (0)); simp only [List.length_append, List.length_singleton]; omega)).mono ?_); rintro e_ w3 ⟨rfl, h1, h2, _⟩; have H5 := Lib.hid h1; have H6 := Lib.hid (H4.out.trans h2); clear h1 h2))
    go_ret
    exact ⟨rfl, by have h := H5.out; rw [List.append_assoc, List.append_assoc] at h; exact h, H6.out⟩)
end Go.Proofs.YtgdbeiadlgkedaaGreatDoor
