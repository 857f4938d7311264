/- Contracts and plain laws, several texts in one. -/
import Derived.Test.YtgdbeiadlgkedaaGreatDoorMHeaderRead6
import Derived.Test.YtgdbeiadlgkedaaGreatDoorMHeaderRead10
import Derived.Test.YtgdbeiadlgkedaaGreatDoorMHeaderRead11
import Derived.Test.YtgdbeiadlgkedaaGreatDoorMHeaderRead13
import Derived.Deep.RegionHeld3
import Derived.Lib.Varint
set_option linter.unusedVariables false
set_option linter.unusedSimpArgs false
namespace Go.Proofs.YtgdbeiadlgkedaaGreatDoor
open Go.RowKit PFnWindowOne Go.Proofs.YtgdbeiadlgkedaaGreatDoorW.PrintWords Go.Proofs.YtgdbeiadlgkedaaGreatDoorW.PrintLast Go.Proofs.YtgdbeiadlgkedaaGreatDoorW.PrintMore
def dwh.T11 : Bool × List (List Nat × List Nat) := (true, [([], []), ([], []), ([], []), ([0, 0], [0]), ([1, 3, 0, 1, 3], [1]), ([2, 4, 0, 1, 2, 3, 4], [2]), ([5, 0, 1, 2, 3, 4, 5], [])])
def dwh.B11 : List Nat := [0, 0, 0, 1, 11, 31, 63]
theorem dwh.tab11 : rtab .any (opsOf Tryz.f54 11) = dwh.T11 := by kernel_rfl
theorem dwh.bits11 : waitsOk dwh.T11.2 dwh.B11 = true := by kernel_rfl
set_option maxHeartbeats 8000000 in
set_option maxRecDepth 100000 in
theorem decHead_1_right (B : Nat) (pe pl : Addr) (a r g : Nat) (l : List UInt8) (w : World) (h : Rd r g l 0 w) (he : Env B pe pl w) (hBr : B ≤ r) (hB : B ≤ w.heap.size) (h8 : 0 + 8 ≤ l.length) (T : Int) (hT : wrap64 (wrap64 (Lib.beNat ((l.drop 0).take 8) : Nat) + -9223372036854775808) = T) (n : Nat) (ys : List S23) (p : Nat)
    (hw : ∀ (a : Option Addr) (W : World), Rd r g l (0 + 8) W → Env B pe pl W → B ≤ r → B ≤ W.heap.size → Calls Tryz.prog 159 #[.pointer a, rdI r] W fun e w' => ∃ gb, e = .returned (.tuple #[.slice (some ⟨gb, 0, none⟩) n n, .nilIface]) ∧ IfRow gb n ys w' ∧ ys.length = n ∧ W.heap.size ≤ gb ∧ W.grownBy w' (some r) ∧ Rd r g l p w') (t : Nat) (f la : Bool) (ix m : Int) (kk : Nat) (hp : rdPane (l.drop p) = .right t f la ix m kk) :
    Calls Tryz.prog 54 #[.iface 199 (.pointer (some ⟨a, 0, none⟩)), rdI r] w fun e w' => ∃ gb, e = .returned (.tuple #[.slice (some ⟨gb, 0, none⟩) n n, .int .i64 T, .agg #[.int .u8 (t : Nat), .bool f, .bool la, .int .i64 ix, .int .i64 m], .nilIface]) ∧ IfRow gb n ys w' ∧ ys.length = n ∧ w.grownBy w' (some r) ∧ Rd r g l (p + kk) w' := by
  have HRG := Lib.hid (And.intro h.lt h.ltg)
  have HZ := Lib.hid (heap_alloc_new w (.cells zP 119))
  have HE := Lib.hid (And.intro he (And.intro hBr hB))
  have hR0 : Rd r g l 0 (w.alloc (.cells zP 119)) := h.alloc _
  have hE0 : Env B pe pl (w.alloc (.cells zP 119)) := he.below ((Below.refl B w).alloc hB _)
  have hT0 := decTime_ok r g l 0 _ hR0 h8
  rw [hT] at hT0
  have HT := Lib.hid hT0
  have HW := Lib.hid hw
  have HP := Lib.hid hp
  have qm := mthF_1
  clear h he hBr hB h8 hR0 hE0 hw hp hT hT0
  go_enter Tryz.func54, Tryz.ntmps54
  go_wp2_with (first
    | (go_at_call 83; go_loud (refine HT.out.mono ?_; rintro e_ w1 ⟨rfl, hg, hr⟩; have HZ1 := Lib.hid ((hg.block _ (blk_lt HZ.out) (by intro e; cases e; have := HRG.out.1; omega)).trans HZ.out); have H1 := Lib.hid (And.intro (grown_trans (grown_alloc (grown_refl w) _) hg) hr); clear hg hr))
    | (go_at_call 159; go_loud (refine (HW.out (some ⟨a, 0, none⟩) w1 H1.out.2 (HE.out.1.below (grown_below H1.out.1 HE.out.2.2 HE.out.2.1)) HE.out.2.1 (Nat.le_trans HE.out.2.2 H1.out.1.size)).mono ?_; rintro e_ w2 ⟨gb, rfl, hrow, hyl, hgb, hg, hr⟩; have HZ2 := Lib.hid ((hg.block _ (blk_lt HZ1.out) (by intro e; cases e; have := HRG.out.1; omega)).trans HZ1.out); have HR2 := Lib.hid (And.intro hrow (And.intro hyl (show w.heap.size ≤ gb from Nat.le_trans H1.out.1.size hgb))); have H2 := Lib.hid (And.intro (grown_trans H1.out.1 hg) hr); clear hrow hyl hgb hg hr))
    | (go_at_call 85; go_loud (refine (decPane_right B pe pl r g l p w2 H2.out.2 (HE.out.1.below (grown_below H2.out.1 HE.out.2.2 HE.out.2.1)) HE.out.2.1 (Nat.le_trans HE.out.2.2 H2.out.1.size) t f la ix m kk HP.out).mono ?_; rintro e_ w3 ⟨rfl, hg, hr⟩; have HZ3 := Lib.hid ((hg.block _ (blk_lt HZ2.out) (by intro e; cases e; have := HRG.out.1; omega)).trans HZ2.out); have HR3 := Lib.hid (HR2.out.1.move (hg.block _ HR2.out.1.lt (by intro e; cases e; have := HRG.out.1; have := HR2.out.2.2; omega))); have H3 := Lib.hid (And.intro (grown_trans H2.out.1 hg) hr); have HR2L := Lib.hid HR2.out.2.1; clear hg hr)))
  have hlt3 : w.heap.size < w3.heap.size := blk_lt HZ3.out
  have HX4 := Lib.hid (show (w3.alloc (.cells #[.int .u8 (t : Nat), .bool f, .bool la, .int .i64 ix, .int .i64 m] 119)).drew.heap[w3.heap.size]? = some (.cells #[.int .u8 (t : Nat), .bool f, .bool la, .int .i64 ix, .int .i64 m] 119 (0, 0)) from heap_alloc_new w3 _)
  have HZ4 := Lib.hid (show (w3.alloc (.cells #[.int .u8 (t : Nat), .bool f, .bool la, .int .i64 ix, .int .i64 m] 119)).drew.heap[w.heap.size]? = some (.cells zP 119 (0, 0)) from blk_alloc HZ3.out _)
  have HR4 := Lib.hid (show IfRow gb n ys (w3.alloc (.cells #[.int .u8 (t : Nat), .bool f, .bool la, .int .i64 ix, .int .i64 m] 119)).drew from HR3.out.move (Below.heap_alloc _ _ _ HR3.out.lt))
  have H4 := Lib.hid (show w.grownBy (w3.alloc (.cells #[.int .u8 (t : Nat), .bool f, .bool la, .int .i64 ix, .int .i64 m] 119)).drew (some r) ∧ Rd r g l (p + kk) (w3.alloc (.cells #[.int .u8 (t : Nat), .bool f, .bool la, .int .i64 ix, .int .i64 m] 119)).drew from ⟨grown_drewN (grown_alloc H3.out.1 _) 1, (H3.out.2.alloc _).drewN 1⟩)
  have K4 := laid5 HX4.out
  obtain ⟨k0, k1, k2, k3, k4⟩ := laid5 HZ4.out
  obtain ⟨g0, g1, g2, g3, g4⟩ := open5 HZ4.out
  clear HZ HZ1 HZ2 HT HW HP H1 H2 HR2 qm
  refine start_ (n := 7) (S := fun w' => w'.cell? ⟨w3.heap.size, 0, none⟩ = some (.int .u8 (t : Nat)) ∧ w'.cell? ⟨w3.heap.size, 1, none⟩ = some (.bool f) ∧ w'.cell? ⟨w3.heap.size, 2, none⟩ = some (.bool la) ∧ w'.cell? ⟨w3.heap.size, 3, none⟩ = some (.int .i64 ix) ∧ w'.cell? ⟨w3.heap.size, 4, none⟩ = some (.int .i64 m)) (ds := [5]) #[false, false, false, false, false, false, false] (by kernel_rfl) rfl rfl K4 (fun hHeld => ?_)
  refine with_tabW dwh.tab11 dwh.bits11 (fun HT_ HW_ => ?_)
  generalize (w3.alloc (.cells #[.int .u8 (t : Nat), .bool f, .bool la, .int .i64 ix, .int .i64 m] 119)).drew = W at *
  refine pure_ (i := 0) (N := some 56) (v := ?_) (a' := ?_) #[true, false, false, false, false, false, false] rfl rfl (any_of HT_.out (by kernel_rfl)) (fun _ _ _ h => h) (Or.inl ⟨by rfl, ?_⟩) ?_ ?_
  rotate_left
  · intro w'
    go_simp
    with_reducible rfl
  rotate_left
  · simp only [Act.put, List.setIfInBounds_toArray, List.set_cons_zero, List.set_cons_succ, i64_w, i32_w]
    rfl
  refine pure_ (i := 1) (N := some 57) (v := ?_) (a' := ?_) #[true, true, false, false, false, false, false] rfl rfl (any_of HT_.out (by kernel_rfl)) (fun _ _ _ h => h) (Or.inl ⟨by rfl, ?_⟩) ?_ ?_
  rotate_left
  · intro w'
    go_simp
    with_reducible rfl
  rotate_left
  · simp only [Act.put, List.setIfInBounds_toArray, List.set_cons_zero, List.set_cons_succ, i64_w, i32_w]
    rfl
  refine pure_ (i := 3) (N := some 4) (v := ?_) (a' := ?_) #[true, true, false, true, false, false, false] rfl rfl (any_of HT_.out (by kernel_rfl)) (fun _ _ _ h => h) (Or.inl ⟨by rfl, ?_⟩) ?_ ?_
  rotate_left
  · intro w'
    go_simp
    with_reducible rfl
  rotate_left
  · simp only [Act.put, List.setIfInBounds_toArray, List.set_cons_zero, List.set_cons_succ, i64_w, i32_w]
    rfl
  refine pure_ (i := 4) (N := some 5) (v := ?_) (a' := ?_) #[true, true, false, true, true, false, false] rfl rfl (any_of HT_.out (by kernel_rfl)) (fun _ _ _ h => h) (Or.inl ⟨by rfl, ?_⟩) ?_ ?_
  rotate_left
  · intro w'
    go_simp
    with_reducible rfl
  rotate_left
  · simp only [Act.put, List.setIfInBounds_toArray, List.set_cons_zero, List.set_cons_succ, i64_w, i32_w]
    rfl
  refine take_ (i := 2) (N := some 58) (v := ?_) (a' := ?_) #[true, true, true, true, true, false, false] rfl rfl (take_ofW HT_.out HW_.out (by kernel_rfl)) (fun _ _ _ h => h) (Or.inl ⟨by rfl, ?_⟩) hHeld ?_ ?_
  rotate_left
  · rintro w' ⟨s0, s1, s2, s3, s4⟩
    go_simp
    with_reducible rfl
  rotate_left
  · simp only [Act.put, List.setIfInBounds_toArray, List.set_cons_zero, List.set_cons_succ, i64_w, i32_w]
    rfl
  refine last_ (i := 5) (N := none) #[true, true, true, true, true, true, false] rfl rfl (one_of HT_.out (by kernel_rfl)) (by decide) (fun K hK => ?_)
  refine skip_ (w1 := ?_) (by rfl) rfl ?_ ?_
  rotate_left
  · go_simp
    rfl
  refine hK.out _ _ ?_
  clear hK K
  refine pure_ (i := 6) (N := some 7) (v := ?_) (a' := ?_) #[true, true, true, true, true, true, true] rfl rfl (any_of HT_.out (by kernel_rfl)) (fun _ _ _ h => h) (Or.inl ⟨by rfl, ?_⟩) ?_ ?_
  rotate_left
  · intro w'
    go_simp
    with_reducible rfl
  rotate_left
  · simp only [Act.put, List.setIfInBounds_toArray, List.set_cons_zero, List.set_cons_succ, i64_w, i32_w]
    rfl
  refine done_ (done_of HT_.out (by kernel_rfl)) ?_
  go_wp2
  have HF := Lib.hid (pane_set HZ4.out (Nat.le_refl _) H4.out.1 H4.out.2 HRG.out.1 HRG.out.2 (.int .u8 (t : Nat)) (.bool f) (.bool la) (.int .i64 ix) (.int .i64 m))
  have HRF := Lib.hid (show IfRow gb n ys (((((W.setCell ⟨w.heap.size, 0, none⟩ (.int .u8 (t : Nat))).setCell ⟨w.heap.size, 1, none⟩ (.bool f)).setCell ⟨w.heap.size, 2, none⟩ (.bool la)).setCell ⟨w.heap.size, 3, none⟩ (.int .i64 ix)).setCell ⟨w.heap.size, 4, none⟩ (.int .i64 m)) from by
    have hne : gb ≠ w.heap.size := by
      intro e; obtain ⟨cs, h1, _⟩ := HR4.out; rw [e, HZ4.out] at h1; cases h1
    exact HR4.out.move ((Below.heap_setCell _ _ _ _ hne).trans ((Below.heap_setCell _ _ _ _ hne).trans ((Below.heap_setCell _ _ _ _ hne).trans ((Below.heap_setCell _ _ _ _ hne).trans (Below.heap_setCell _ _ _ _ hne))))))
  clear k0 k1 k2 k3 k4 g0 g1 g2 g3 g4
  generalize (((((W.setCell ⟨w.heap.size, 0, none⟩ (.int .u8 (t : Nat))).setCell ⟨w.heap.size, 1, none⟩ (.bool f)).setCell ⟨w.heap.size, 2, none⟩ (.bool la)).setCell ⟨w.heap.size, 3, none⟩ (.int .i64 ix)).setCell ⟨w.heap.size, 4, none⟩ (.int .i64 m)) = X at HF HRF ⊢
  obtain ⟨c0, c1, c2, c3, c4⟩ := laid5 HF.out.1
  exact bodyPost_ret (v := .tuple #[.slice (some ⟨gb, 0, none⟩) n n, .int .i64 T, .agg #[.int .u8 (t : Nat), .bool f, .bool la, .int .i64 ix, .int .i64 m], .nilIface]) (by simp [results, Tryz.results54, go_sem, c0, c1, c2, c3, c4]; try rfl) rfl ⟨gb, rfl, HRF.out, HR2L.out, HF.out.2.1, HF.out.2.2⟩
set_option maxHeartbeats 8000000 in
set_option maxRecDepth 100000 in
theorem decHead_0_right (B : Nat) (pe pl : Addr) (a r g : Nat) (l : List UInt8) (w : World) (h : Rd r g l 0 w) (he : Env B pe pl w) (hBr : B ≤ r) (hB : B ≤ w.heap.size) (h8 : 0 + 8 ≤ l.length) (T : Int) (hT : wrap64 (wrap64 (Lib.beNat ((l.drop 0).take 8) : Nat) + -9223372036854775808) = T) (n : Nat) (ys : List S23) (p : Nat)
    (hw : ∀ (a : Option Addr) (W : World), Rd r g l (0 + 8) W → Env B pe pl W → B ≤ r → B ≤ W.heap.size → Calls Tryz.prog 156 #[.pointer a, rdI r] W fun e w' => ∃ gb, e = .returned (.tuple #[.slice (some ⟨gb, 0, none⟩) n n, .nilIface]) ∧ IfRow gb n ys w' ∧ ys.length = n ∧ W.heap.size ≤ gb ∧ W.grownBy w' (some r) ∧ Rd r g l p w') (t : Nat) (f la : Bool) (ix m : Int) (kk : Nat) (hp : rdPane (l.drop p) = .right t f la ix m kk) :
    Calls Tryz.prog 54 #[.iface 197 (.pointer (some ⟨a, 0, none⟩)), rdI r] w fun e w' => ∃ gb, e = .returned (.tuple #[.slice (some ⟨gb, 0, none⟩) n n, .int .i64 T, .agg #[.int .u8 (t : Nat), .bool f, .bool la, .int .i64 ix, .int .i64 m], .nilIface]) ∧ IfRow gb n ys w' ∧ ys.length = n ∧ w.grownBy w' (some r) ∧ Rd r g l (p + kk) w' := by
  have HRG := Lib.hid (And.intro h.lt h.ltg)
  have HZ := Lib.hid (heap_alloc_new w (.cells zP 119))
  have HE := Lib.hid (And.intro he (And.intro hBr hB))
  have hR0 : Rd r g l 0 (w.alloc (.cells zP 119)) := h.alloc _
  have hE0 : Env B pe pl (w.alloc (.cells zP 119)) := he.below ((Below.refl B w).alloc hB _)
  have hT0 := decTime_ok r g l 0 _ hR0 h8
  rw [hT] at hT0
  have HT := Lib.hid hT0
  have HW := Lib.hid hw
  have HP := Lib.hid hp
  have qm := mthF_0
  clear h he hBr hB h8 hR0 hE0 hw hp hT hT0
  go_enter Tryz.func54, Tryz.ntmps54
  go_wp2_with (first
    | (go_at_call 83; go_loud (refine HT.out.mono ?_; rintro e_ w1 ⟨rfl, hg, hr⟩; have HZ1 := Lib.hid ((hg.block _ (blk_lt HZ.out) (by intro e; cases e; have := HRG.out.1; omega)).trans HZ.out); have H1 := Lib.hid (And.intro (grown_trans (grown_alloc (grown_refl w) _) hg) hr); clear hg hr))
    | (go_at_call 156; go_loud (refine (HW.out (some ⟨a, 0, none⟩) w1 H1.out.2 (HE.out.1.below (grown_below H1.out.1 HE.out.2.2 HE.out.2.1)) HE.out.2.1 (Nat.le_trans HE.out.2.2 H1.out.1.size)).mono ?_; rintro e_ w2 ⟨gb, rfl, hrow, hyl, hgb, hg, hr⟩; have HZ2 := Lib.hid ((hg.block _ (blk_lt HZ1.out) (by intro e; cases e; have := HRG.out.1; omega)).trans HZ1.out); have HR2 := Lib.hid (And.intro hrow (And.intro hyl (show w.heap.size ≤ gb from Nat.le_trans H1.out.1.size hgb))); have H2 := Lib.hid (And.intro (grown_trans H1.out.1 hg) hr); clear hrow hyl hgb hg hr))
    | (go_at_call 85; go_loud (refine (decPane_right B pe pl r g l p w2 H2.out.2 (HE.out.1.below (grown_below H2.out.1 HE.out.2.2 HE.out.2.1)) HE.out.2.1 (Nat.le_trans HE.out.2.2 H2.out.1.size) t f la ix m kk HP.out).mono ?_; rintro e_ w3 ⟨rfl, hg, hr⟩; have HZ3 := Lib.hid ((hg.block _ (blk_lt HZ2.out) (by intro e; cases e; have := HRG.out.1; omega)).trans HZ2.out); have HR3 := Lib.hid (HR2.out.1.move (hg.block _ HR2.out.1.lt (by intro e; cases e; have := HRG.out.1; have := HR2.out.2.2; omega))); have H3 := Lib.hid (And.intro (grown_trans H2.out.1 hg) hr); have HR2L := Lib.hid HR2.out.2.1; clear hg hr)))
  have hlt3 : w.heap.size < w3.heap.size := blk_lt HZ3.out
  have HX4 := Lib.hid (show (w3.alloc (.cells #[.int .u8 (t : Nat), .bool f, .bool la, .int .i64 ix, .int .i64 m] 119)).drew.heap[w3.heap.size]? = some (.cells #[.int .u8 (t : Nat), .bool f, .bool la, .int .i64 ix, .int .i64 m] 119 (0, 0)) from heap_alloc_new w3 _)
  have HZ4 := Lib.hid (show (w3.alloc (.cells #[.int .u8 (t : Nat), .bool f, .bool la, .int .i64 ix, .int .i64 m] 119)).drew.heap[w.heap.size]? = some (.cells zP 119 (0, 0)) from blk_alloc HZ3.out _)
  have HR4 := Lib.hid (show IfRow gb n ys (w3.alloc (.cells #[.int .u8 (t : Nat), .bool f, .bool la, .int .i64 ix, .int .i64 m] 119)).drew from HR3.out.move (Below.heap_alloc _ _ _ HR3.out.lt))
  have H4 := Lib.hid (show w.grownBy (w3.alloc (.cells #[.int .u8 (t : Nat), .bool f, .bool la, .int .i64 ix, .int .i64 m] 119)).drew (some r) ∧ Rd r g l (p + kk) (w3.alloc (.cells #[.int .u8 (t : Nat), .bool f, .bool la, .int .i64 ix, .int .i64 m] 119)).drew from ⟨grown_drewN (grown_alloc H3.out.1 _) 1, (H3.out.2.alloc _).drewN 1⟩)
  have K4 := laid5 HX4.out
  obtain ⟨k0, k1, k2, k3, k4⟩ := laid5 HZ4.out
  obtain ⟨g0, g1, g2, g3, g4⟩ := open5 HZ4.out
  clear HZ HZ1 HZ2 HT HW HP H1 H2 HR2 qm
  refine start_ (n := 7) (S := fun w' => w'.cell? ⟨w3.heap.size, 0, none⟩ = some (.int .u8 (t : Nat)) ∧ w'.cell? ⟨w3.heap.size, 1, none⟩ = some (.bool f) ∧ w'.cell? ⟨w3.heap.size, 2, none⟩ = some (.bool la) ∧ w'.cell? ⟨w3.heap.size, 3, none⟩ = some (.int .i64 ix) ∧ w'.cell? ⟨w3.heap.size, 4, none⟩ = some (.int .i64 m)) (ds := [5]) #[false, false, false, false, false, false, false] (by kernel_rfl) rfl rfl K4 (fun hHeld => ?_)
  refine with_tabW dwh.tab11 dwh.bits11 (fun HT_ HW_ => ?_)
  generalize (w3.alloc (.cells #[.int .u8 (t : Nat), .bool f, .bool la, .int .i64 ix, .int .i64 m] 119)).drew = W at *
  refine pure_ (i := 0) (N := some 56) (v := ?_) (a' := ?_) #[true, false, false, false, false, false, false] rfl rfl (any_of HT_.out (by kernel_rfl)) (fun _ _ _ h => h) (Or.inl ⟨by rfl, ?_⟩) ?_ ?_
  rotate_left
  · intro w'
    go_simp
    with_reducible rfl
  rotate_left
  · simp only [Act.put, List.setIfInBounds_toArray, List.set_cons_zero, List.set_cons_succ, i64_w, i32_w]
    rfl
  refine pure_ (i := 1) (N := some 57) (v := ?_) (a' := ?_) #[true, true, false, false, false, false, false] rfl rfl (any_of HT_.out (by kernel_rfl)) (fun _ _ _ h => h) (Or.inl ⟨by rfl, ?_⟩) ?_ ?_
  rotate_left
  · intro w'
    go_simp
    with_reducible rfl
  rotate_left
  · simp only [Act.put, List.setIfInBounds_toArray, List.set_cons_zero, List.set_cons_succ, i64_w, i32_w]
    rfl
  refine pure_ (i := 3) (N := some 4) (v := ?_) (a' := ?_) #[true, true, false, true, false, false, false] rfl rfl (any_of HT_.out (by kernel_rfl)) (fun _ _ _ h => h) (Or.inl ⟨by rfl, ?_⟩) ?_ ?_
  rotate_left
  · intro w'
    go_simp
    with_reducible rfl
  rotate_left
  · simp only [Act.put, List.setIfInBounds_toArray, List.set_cons_zero, List.set_cons_succ, i64_w, i32_w]
    rfl
  refine pure_ (i := 4) (N := some 5) (v := ?_) (a' := ?_) #[true, true, false, true, true, false, false] rfl rfl (any_of HT_.out (by kernel_rfl)) (fun _ _ _ h => h) (Or.inl ⟨by rfl, ?_⟩) ?_ ?_
  rotate_left
  · intro w'
    go_simp
    with_reducible rfl
  rotate_left
  · simp only [Act.put, List.setIfInBounds_toArray, List.set_cons_zero, List.set_cons_succ, i64_w, i32_w]
    rfl
  refine take_ (i := 2) (N := some 58) (v := ?_) (a' := ?_) #[true, true, true, true, true, false, false] rfl rfl (take_ofW HT_.out HW_.out (by kernel_rfl)) (fun _ _ _ h => h) (Or.inl ⟨by rfl, ?_⟩) hHeld ?_ ?_
  rotate_left
  · rintro w' ⟨s0, s1, s2, s3, s4⟩
    go_simp
    with_reducible rfl
  rotate_left
  · simp only [Act.put, List.setIfInBounds_toArray, List.set_cons_zero, List.set_cons_succ, i64_w, i32_w]
    rfl
  refine last_ (i := 5) (N := none) #[true, true, true, true, true, true, false] rfl rfl (one_of HT_.out (by kernel_rfl)) (by decide) (fun K hK => ?_)
  refine skip_ (w1 := ?_) (by rfl) rfl ?_ ?_
  rotate_left
  · go_simp
    rfl
  refine hK.out _ _ ?_
  clear hK K
  refine pure_ (i := 6) (N := some 7) (v := ?_) (a' := ?_) #[true, true, true, true, true, true, true] rfl rfl (any_of HT_.out (by kernel_rfl)) (fun _ _ _ h => h) (Or.inl ⟨by rfl, ?_⟩) ?_ ?_
  rotate_left
  · intro w'
    go_simp
    with_reducible rfl
  rotate_left
  · simp only [Act.put, List.setIfInBounds_toArray, List.set_cons_zero, List.set_cons_succ, i64_w, i32_w]
    rfl
  refine done_ (done_of HT_.out (by kernel_rfl)) ?_
  go_wp2
  have HF := Lib.hid (pane_set HZ4.out (Nat.le_refl _) H4.out.1 H4.out.2 HRG.out.1 HRG.out.2 (.int .u8 (t : Nat)) (.bool f) (.bool la) (.int .i64 ix) (.int .i64 m))
  have HRF := Lib.hid (show IfRow gb n ys (((((W.setCell ⟨w.heap.size, 0, none⟩ (.int .u8 (t : Nat))).setCell ⟨w.heap.size, 1, none⟩ (.bool f)).setCell ⟨w.heap.size, 2, none⟩ (.bool la)).setCell ⟨w.heap.size, 3, none⟩ (.int .i64 ix)).setCell ⟨w.heap.size, 4, none⟩ (.int .i64 m)) from by
    have hne : gb ≠ w.heap.size := by
      intro e; obtain ⟨cs, h1, _⟩ := HR4.out; rw [e, HZ4.out] at h1; cases h1
    exact HR4.out.move ((Below.heap_setCell _ _ _ _ hne).trans ((Below.heap_setCell _ _ _ _ hne).trans ((Below.heap_setCell _ _ _ _ hne).trans ((Below.heap_setCell _ _ _ _ hne).trans (Below.heap_setCell _ _ _ _ hne))))))
  clear k0 k1 k2 k3 k4 g0 g1 g2 g3 g4
  generalize (((((W.setCell ⟨w.heap.size, 0, none⟩ (.int .u8 (t : Nat))).setCell ⟨w.heap.size, 1, none⟩ (.bool f)).setCell ⟨w.heap.size, 2, none⟩ (.bool la)).setCell ⟨w.heap.size, 3, none⟩ (.int .i64 ix)).setCell ⟨w.heap.size, 4, none⟩ (.int .i64 m)) = X at HF HRF ⊢
  obtain ⟨c0, c1, c2, c3, c4⟩ := laid5 HF.out.1
  exact bodyPost_ret (v := .tuple #[.slice (some ⟨gb, 0, none⟩) n n, .int .i64 T, .agg #[.int .u8 (t : Nat), .bool f, .bool la, .int .i64 ix, .int .i64 m], .nilIface]) (by simp [results, Tryz.results54, go_sem, c0, c1, c2, c3, c4]; try rfl) rfl ⟨gb, rfl, HRF.out, HR2L.out, HF.out.2.1, HF.out.2.2⟩
end Go.Proofs.YtgdbeiadlgkedaaGreatDoor
set_option linter.unusedVariables false
set_option linter.unusedSimpArgs false
namespace Go.Proofs.YtgdbeiadlgkedaaGreatDoor
open Go.RowKit PFnWindowOne Go.Proofs.YtgdbeiadlgkedaaGreatDoorW.PrintWords
theorem D1.bel {w0 x : World} {cs : Array Value} {T : TypeId} (h : D1 w0 cs T x) : Below w0.heap.size w0 x := h.2
end Go.Proofs.YtgdbeiadlgkedaaGreatDoor
