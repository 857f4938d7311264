/- Contracts and plain laws, several texts in one. -/
import Derived.Test.YtgdbeiadlgkedaaDoorMDecode8
import Derived.Test.YtgdbeiadlgkedaaDoorMDecode9
import Derived.Test.YtgdbeiadlgkedaaDoorMDecode20
import Derived.Laws.MakeOwn
import Derived.Outline
namespace Go.Proofs.YtgdbeiadlgkedaaDoor
open Go.RowKit
open Go.Joins (below_bytesWorld)
set_option linter.unusedVariables false
set_option linter.unusedSimpArgs false
def mkzN (n : Nat) : Obj := .cells (madeCells #[.int .u8 0] (n * 1)) 5
theorem mk_bytesN (n : Nat) (hn : n ≤ 1000000) : ∀ W : World, (Instr.makeSlice 29 (.int .i64 (n : Int)) (.int .i64 (n : Int))).run Tryd.prog W = .ok (.slice (some ⟨W.heap.size, 0, none⟩) n n) (W.alloc (mkzN n)) := by
  intro W
  have hm : (Tryd.prog.info? 5).map (fun i => (i.zero, i.size, i.bytes)) = some (some (.int .u8 0), 1, 1) := by kernel_rfl
  obtain ⟨i, hi, he⟩ := Option.map_eq_some_iff.1 hm
  simp only [Prod.mk.injEq] at he
  obtain ⟨hz, hs, hb⟩ := he
  have h := run_makeSlice (P := Tryd.prog) W 29 5 i _ Tryd.underlying29 hi hz .i64 .i64 (n : Int) (n : Int) (by omega) (Int.le_refl _) (by rw [hs]; simp; omega) (by rw [hb]; simp; omega) (by omega)
  rw [hs, show (Value.int .u8 0).cells = #[.int .u8 0] from rfl] at h
  simpa [mkzN] using h
theorem mkzN_size (n : Nat) : (madeCells #[.int .u8 0] (n * 1)).size = n := by rw [size_madeCells, Nat.mul_one]
set_option maxHeartbeats 4000000 in
set_option maxRecDepth 100000 in
theorem readNi_some (r g : Nat) (l : List UInt8) (i n : Nat) (w : World) (h : Rd r g l i w) (hn0 : 0 < n) (hn : i + n ≤ l.length) (hn2 : n ≤ 1000000) :
    Calls Tryd.prog 87 #[rdI r, .int .i64 n] w fun e w' => e = .returned (.tuple #[.slice (some ⟨w.heap.size, 0, none⟩) n n, .nilIface]) ∧ At w' ⟨w.heap.size, 0, none⟩ ((l.drop i).take n) ∧ w.grownBy w' (some r) ∧ Rd r g l (i + n) w' := by
  have na := na_read (some ⟨r, 0, none⟩)
  have km := mk_bytesN n hn2
  have hne := h.ge (mkzN n)
  have H := Lib.hid (h.alloc (mkzN n))
  have HD := Lib.hid (heap_alloc_new w (mkzN n))
  have HN := Lib.hid (And.intro hn0 (And.intro hn hn2))
  have HZ := Lib.hid (mkzN_size n)
  have hw : wrap64 (n : Int) = (n : Int) := IntWalk.wrap64_in _ (by omega)
  have hz : ¬ n = 0 := by omega
  have HNE := Lib.hid hne
  clear h hn0 hn hn2 hne
  go_enter Tryd.func87, Tryd.ntmps87
  go_wp2
  refine wp_loop_rounds 1 ?_; rw [rounds_succ]
  go_wp2
  go_region_with (go_at_call 127; go_loud (refine (read_some r g l i w.heap.size 0 n n n (madeCells #[.int .u8 0] (n * 1)) 5 _ ?_ (by have := HN.out; omega) ?_ HNE.out.1 HNE.out.2 (by have := HN.out; omega) (by rw [HZ.out]; omega)).mono ?_; exact H.out.drewN 1; exact HD.out; rintro e_ w1 ⟨rfl, h1, h2, h3⟩; have H1 := Lib.hid (And.intro h1 (And.intro h2 h3)); clear h1 h2 h3))
  go_wp2
  go_ret2
  obtain ⟨a1, a2, a3⟩ := H1.out
  refine ⟨rfl, ?_, ?_, a1⟩
  · exact At.mk fun j x hj => (blk_cell a2 j).trans (laidAt_get hj)
  · exact Two.grown (grown_alloc (grown_refl (r := r) w) _) (((Two.refl r w.heap.size _).drewN 1).trans a3) (Nat.le_refl _)
set_option maxHeartbeats 4000000 in
set_option maxRecDepth 100000 in
theorem readNi_zero (r g : Nat) (l : List UInt8) (i : Nat) (w : World) (h : Rd r g l i w) (hl : i < l.length) :
    Calls Tryd.prog 87 #[rdI r, .int .i64 0] w fun e w' => e = .returned (.tuple #[.slice (some ⟨w.heap.size, 0, none⟩) 0 0, .nilIface]) ∧ w.grownBy w' (some r) ∧ Rd r g l i w' := by
  have na := na_read (some ⟨r, 0, none⟩)
  have km : ∀ W : World, (Instr.makeSlice 29 (.int .i64 0) (.int .i64 0)).run Tryd.prog W = .ok (.slice (some ⟨W.heap.size, 0, none⟩) 0 0) (W.alloc (mkzN 0)) := fun W => mk_bytesN 0 (by omega) W
  have hne := h.ge (mkzN 0)
  have H := Lib.hid (h.alloc (mkzN 0))
  have HD := Lib.hid (heap_alloc_new w (mkzN 0))
  have HN := Lib.hid hl
  have HNE := Lib.hid hne
  clear h hl hne
  go_enter Tryd.func87, Tryd.ntmps87
  go_wp2
  refine wp_loop_rounds 1 ?_; rw [rounds_succ]
  go_wp2
  go_region_with (go_at_call 127; go_loud (refine (read_some r g l i w.heap.size 0 0 0 0 (madeCells #[.int .u8 0] (0 * 1)) 5 _ ?_ (by have := HN.out; omega) ?_ HNE.out.1 HNE.out.2 (by omega) (by omega)).mono ?_; exact H.out.drewN 1; exact HD.out; rintro e_ w1 ⟨rfl, h1, h2, h3⟩; have H1 := Lib.hid (And.intro h1 (And.intro h2 h3)); clear h1 h2 h3))
  go_wp2
  go_ret2
  obtain ⟨a1, a2, a3⟩ := H1.out
  exact ⟨rfl, Two.grown (grown_alloc (grown_refl (r := r) w) _) (((Two.refl r w.heap.size _).drewN 1).trans a3) (Nat.le_refl _), a1⟩
set_option maxHeartbeats 4000000 in
set_option maxRecDepth 100000 in
theorem readNi_zero0 (r g : Nat) (l : List UInt8) (ev : Value) (w : World) (h : Rd r g l l.length w) (he : w.cell? ⟨0, 0, none⟩ = some ev) :
    Calls Tryd.prog 87 #[rdI r, .int .i64 0] w fun e w' => e = .returned (.tuple #[.slice (some ⟨w.heap.size, 0, none⟩) 0 0, .nilIface]) ∧ w.grownBy w' (some r) ∧ Rd r g l l.length w' := by
  have na := na_read (some ⟨r, 0, none⟩)
  have km : ∀ W : World, (Instr.makeSlice 29 (.int .i64 0) (.int .i64 0)).run Tryd.prog W = .ok (.slice (some ⟨W.heap.size, 0, none⟩) 0 0) (W.alloc (mkzN 0)) := fun W => mk_bytesN 0 (by omega) W
  have H := Lib.hid (h.alloc (mkzN 0))
  have HE := Lib.hid (show (w.alloc (mkzN 0)).cell? ⟨0, 0, none⟩ = some ev from (World.cell?_of_block (a := ⟨0, 0, none⟩) (Below.heap_alloc w (mkzN 0) _ (World.block_lt_of_cell? w _ he))).trans he)
  clear h he
  go_enter Tryd.func87, Tryd.ntmps87
  go_wp2
  refine wp_loop_rounds 1 ?_; rw [rounds_succ]
  go_wp2
  go_region_with (go_at_call 127; refine (read_end r g l _ _ _ ev _ ?_ ?_).mono ?_; exact H.out.drewN 1; exact HE.out; rintro e_ w1 ⟨rfl, q1, hq⟩; have HQ := Lib.hid hq; clear hq)
  go_wp2
  go_ret2
  exact ⟨rfl, by rw [HQ.out]; exact grown_drewN (grown_drewN (grown_alloc (grown_refl (r := r) w) _) 1) q1, by rw [HQ.out]; exact (H.out.drewN 1).drewN q1⟩
set_option maxHeartbeats 4000000 in
set_option maxRecDepth 100000 in
theorem readNi_eof (r g : Nat) (l : List UInt8) (n : Nat) (te : TypeId) (pe : Value) (w : World) (h : Rd r g l l.length w) (he : w.cell? ⟨0, 0, none⟩ = some (.iface te pe)) (hn : 0 < n) (hn2 : n ≤ 1000000) :
    Calls Tryd.prog 87 #[rdI r, .int .i64 n] w fun e w' => e = .returned (.tuple #[.slice none 0 0, .iface te pe]) ∧ w.grownBy w' (some r) ∧ Rd r g l l.length w' := by
  have na := na_read (some ⟨r, 0, none⟩)
  have km := mk_bytesN n hn2
  have H := Lib.hid (h.alloc (mkzN n))
  have HE := Lib.hid (show (w.alloc (mkzN n)).cell? ⟨0, 0, none⟩ = some (.iface te pe) from (World.cell?_of_block (a := ⟨0, 0, none⟩) (Below.heap_alloc w (mkzN n) _ (World.block_lt_of_cell? w _ he))).trans he)
  have hz : ¬ n = 0 := by omega
  have hw0 : ((0 : Int) == (n : Int)) = false := beq_eq_false_iff_ne.mpr (by omega)
  clear h he
  go_enter Tryd.func87, Tryd.ntmps87
  go_wp2
  refine wp_loop_rounds 1 ?_; rw [rounds_succ]
  go_wp2
  go_region_with (go_at_call 127; refine (read_end r g l _ _ _ (.iface te pe) _ ?_ ?_).mono ?_; exact H.out.drewN 1; exact HE.out; rintro e_ w1 ⟨rfl, q1, hq⟩; have HQ := Lib.hid hq; clear hq)
  go_wp2
  go_ret2
  exact ⟨rfl, by rw [HQ.out]; exact grown_drewN (grown_drewN (grown_alloc (grown_refl (r := r) w) _) 1) q1, by rw [HQ.out]; exact (H.out.drewN 1).drewN q1⟩
set_option maxHeartbeats 4000000 in
set_option maxRecDepth 100000 in
theorem readNi_few (r g : Nat) (l : List UInt8) (i n : Nat) (te : TypeId) (pe : Value) (w : World) (h : Rd r g l i w) (hi : i < l.length) (hn : l.length < i + n) (he : w.cell? ⟨0, 0, none⟩ = some (.iface te pe)) (her : 0 ≠ r) (hn2 : n ≤ 1000000) :
    Calls Tryd.prog 87 #[rdI r, .int .i64 n] w fun e w' => e = .returned (.tuple #[.slice none 0 0, .iface te pe]) ∧ w.grownBy w' (some r) ∧ Rd r g l l.length w' := by
  have na := na_read (some ⟨r, 0, none⟩)
  have km := mk_bytesN n hn2
  obtain ⟨m, hm⟩ : ∃ m, m = l.length - i := ⟨_, rfl⟩
  have hne := h.ge (mkzN n)
  have hlt := World.block_lt_of_cell? w _ he
  have H := Lib.hid (h.alloc (mkzN n))
  have HD := Lib.hid (heap_alloc_new w (mkzN n))
  have HE := Lib.hid (show (w.alloc (mkzN n)).cell? ⟨0, 0, none⟩ = some (.iface te pe) from (World.cell?_of_block (a := ⟨0, 0, none⟩) (Below.heap_alloc w (mkzN n) _ hlt)).trans he)
  have HED := Lib.hid (show 0 ≠ w.heap.size from Nat.ne_of_lt hlt)
  have HL := Lib.hid h.len
  have HI := Lib.hid hi
  have HN := Lib.hid hn
  have HZ := Lib.hid (mkzN_size n)
  have hz : ¬ n = 0 := by omega
  have hz2 : ¬ n = m := by omega
  have hz3 : (m : Int) ≤ (n : Int) := by omega
  have hz4 : m ≤ n := by omega
  have hw : wrap64 (m : Int) = (m : Int) := IntWalk.wrap64_in _ (by have := HL.out; omega)
  have q1 : ((m : Int) == (n : Int)) = false := beq_eq_false_iff_ne.mpr (by omega)
  have q2 : ((m : Int) == 0) = false := beq_eq_false_iff_ne.mpr (by omega)
  have HM := Lib.hid hm
  have HNE := Lib.hid hne
  have HER := Lib.hid her
  clear h he hi hn hm her hn2 hne hlt
  go_enter Tryd.func87, Tryd.ntmps87
  go_wp2
  refine wp_loop_rounds 2 ?_; rw [rounds_succ]
  go_wp2
  go_region_with (go_at_call 127; go_loud (refine (read_some r g l i w.heap.size 0 n n m (madeCells #[.int .u8 0] (n * 1)) 5 _ ?_ HI.out ?_ HNE.out.1 HNE.out.2 (by have := HM.out; have := HN.out; omega) (by rw [HZ.out]; omega)).mono ?_; exact H.out.drewN 1; exact HD.out; rintro e_ w1 ⟨rfl, h1, h2, h3⟩; have H1 := Lib.hid (And.intro h1 (And.intro h2 h3)); clear h1 h2 h3))
  go_wp2
  rw [rounds_succ]
  go_wp2
  have hil : i + m = l.length := by have := HM.out; have := HI.out; omega
  have R1 := Lib.hid (hil ▸ H1.out.1)
  have E1 : w1.cell? ⟨0, 0, none⟩ = some (.iface te pe) := (World.cell?_of_block (a := ⟨0, 0, none⟩) (H1.out.2.2.block _ (World.block_lt_of_cell? _ _ HE.out) HER.out HED.out)).trans HE.out
  have HE1 := Lib.hid E1
  clear E1 hil
  go_region_with (go_at_call 127; refine (read_end r g l _ _ _ (.iface te pe) _ ?_ ?_).mono ?_; exact R1.out.drewN 1; exact HE1.out; rintro e_ w2 ⟨rfl, q3, hq⟩; have HQ := Lib.hid hq; clear hq)
  go_wp2
  go_ret2
  rw [HQ.out]
  refine ⟨rfl, ?_, (R1.out.drewN 1).drewN q3⟩
  exact grown_drewN (grown_drewN (Two.grown (grown_alloc (grown_refl (r := r) w) _) (((Two.refl r w.heap.size _).drewN 1).trans H1.out.2.2) (Nat.le_refl _)) 1) q3
end Go.Proofs.YtgdbeiadlgkedaaDoor
namespace Go.Proofs.YtgdbeiadlgkedaaDoor
open Go.RowKit
set_option linter.unusedVariables false
set_option linter.unusedSimpArgs false
theorem readNi_ok (B : Nat) (pe pl : Addr) (r g : Nat) (l : List UInt8) (i n : Nat) (w : World) (h : Rd r g l i w) (he : Env B pe pl w) (hn : i + n ≤ l.length) (hn2 : n ≤ 1000000) :
    Calls Tryd.prog 87 #[rdI r, .int .i64 n] w fun e w' => e = .returned (.tuple #[.slice (some ⟨w.heap.size, 0, none⟩) n n, .nilIface]) ∧ At w' ⟨w.heap.size, 0, none⟩ ((l.drop i).take n) ∧ w.grownBy w' (some r) ∧ Rd r g l (i + n) w' := by
  by_cases h0 : n = 0
  · subst h0
    have hA : ∀ w' : World, At w' ⟨w.heap.size, 0, none⟩ ((l.drop i).take 0) := fun w' => At.mk fun j x hj => by simp at hj
    by_cases hi : i < l.length
    · exact (readNi_zero r g l i w h hi).mono fun e w' ⟨a1, a2, a3⟩ => ⟨a1, hA w', a2, a3⟩
    · have hle := h.le
      obtain rfl : i = l.length := by omega
      exact (readNi_zero0 r g l _ w h he.eof).mono fun e w' ⟨a1, a2, a3⟩ => ⟨a1, hA w', a2, a3⟩
  · exact readNi_some r g l i n w h (by omega) hn hn2
theorem readNi_bad (B : Nat) (pe pl : Addr) (r g : Nat) (l : List UInt8) (i n : Nat) (w : World) (h : Rd r g l i w) (he : Env B pe pl w) (hBr : B ≤ r) (hB : B ≤ w.heap.size) (hn : l.length < i + n) (hn2 : n ≤ 1000000) :
    Calls Tryd.prog 87 #[rdI r, .int .i64 n] w fun e w' => e = .returned (.tuple #[.slice none 0 0, errV pe]) ∧ w.grownBy w' (some r) ∧ Rd r g l l.length w' := by
  have hle := h.le
  by_cases hi : i < l.length
  · exact readNi_few r g l i n _ _ w h hi hn he.eof (by have := he.b0; omega) hn2
  · obtain rfl : i = l.length := by omega
    exact readNi_eof r g l n _ _ w h he.eof (by omega) hn2
theorem wrap_small (v : Nat) (h : v ≤ 1000000) : wrap64 ((v : Nat) : Int) = (v : Int) := by unfold wrap64; omega
set_option maxHeartbeats 4000000 in
set_option maxRecDepth 100000 in
theorem decBytes_ok (B : Nat) (pe pl : Addr) (r g : Nat) (l : List UInt8) (i v k : Nat) (w : World) (h : Rd r g l i w) (he : Env B pe pl w) (hBr : B ≤ r) (hB : B ≤ w.heap.size) (hR : vrd 0 0 (l.drop i) = some (v, k)) (hv : v ≤ 1000000) (hn : i + k + v ≤ l.length) :
    Calls Tryd.prog 48 #[rdI r] w fun e w' => ∃ d : Nat, e = .returned (.tuple #[.slice (some ⟨d, 0, none⟩) v v, .nilIface]) ∧ At w' ⟨d, 0, none⟩ ((l.drop (i + k)).take v) ∧ w.grownBy w' (some r) ∧ Rd r g l (i + k + v) w' := by
  have hC := decVarI_ok B pe pl r g l i v k w h he hBr hR
  rw [wrap_small v hv] at hC
  have HC := Lib.hid hC
  have HE := Lib.hid (And.intro he (And.intro hBr hB))
  have HN := Lib.hid (And.intro hn hv)
  clear h he hBr hB hR hC hn hv
  go_enter Tryd.func48, Tryd.ntmps48
  go_wp2_with (first
    | (go_at_call 60; go_loud (refine HC.out.mono ?_; rintro e_ w1 ⟨rfl, hg, hr⟩; have H1 := Lib.hid (And.intro hg hr); clear hg hr))
    | (go_at_call 87; go_loud (refine (readNi_ok B pe pl r g l (i + k) v w1 H1.out.2 (HE.out.1.below (grown_below H1.out.1 HE.out.2.2 HE.out.2.1)) HN.out.1 HN.out.2).mono ?_; rintro e_ w2 ⟨rfl, ha, hg, hr⟩; have H2 := Lib.hid (And.intro ha (And.intro (grown_trans H1.out.1 hg) hr)); clear ha hg hr)))
  go_ret2
  exact ⟨_, rfl, H2.out⟩
set_option maxHeartbeats 4000000 in
set_option maxRecDepth 100000 in
theorem decBytes_bad (B : Nat) (pe pl : Addr) (r g : Nat) (l : List UInt8) (i : Nat) (w : World) (h : Rd r g l i w) (he : Env B pe pl w) (hBr : B ≤ r) (hR : vrd 0 0 (l.drop i) = none) :
    Calls Tryd.prog 48 #[rdI r] w fun e w' => ∃ ev, e = .returned (.tuple #[.slice none 0 0, ev]) ∧ Fell r g l w w' ev := by
  have HC := Lib.hid (decVarI_bad B pe pl r g l i w h he hBr hR)
  clear h he hBr hR
  go_enter Tryd.func48, Tryd.ntmps48
  go_wp2_with (go_at_call 60; go_loud (refine HC.out.mono ?_; rintro e_ w1 ⟨ev, rfl, hf⟩; have H1 := Lib.hid hf; obtain ⟨_, ⟨ea, es, rfl, _⟩, _⟩ := hf))
  go_ret2
  exact ⟨_, rfl, H1.out⟩
set_option maxHeartbeats 4000000 in
set_option maxRecDepth 100000 in
theorem decBytes_few (B : Nat) (pe pl : Addr) (r g : Nat) (l : List UInt8) (i v k : Nat) (w : World) (h : Rd r g l i w) (he : Env B pe pl w) (hBr : B ≤ r) (hB : B ≤ w.heap.size) (hR : vrd 0 0 (l.drop i) = some (v, k)) (hv : v ≤ 1000000) (hn : l.length < i + k + v) :
    Calls Tryd.prog 48 #[rdI r] w fun e w' => ∃ ev, e = .returned (.tuple #[.slice none 0 0, ev]) ∧ Fell r g l w w' ev := by
  have hC := decVarI_ok B pe pl r g l i v k w h he hBr hR
  rw [wrap_small v hv] at hC
  have HC := Lib.hid hC
  have HE := Lib.hid (And.intro he (And.intro hBr hB))
  have HN := Lib.hid (And.intro hn hv)
  clear h he hBr hB hR hC hn hv
  go_enter Tryd.func48, Tryd.ntmps48
  go_wp2_with (first
    | (go_at_call 60; go_loud (refine HC.out.mono ?_; rintro e_ w1 ⟨rfl, hg, hr⟩; have H1 := Lib.hid (And.intro hg hr); clear hg hr))
    | (go_at_call 87; go_loud (refine (readNi_bad B pe pl r g l (i + k) v w1 H1.out.2 (HE.out.1.below (grown_below H1.out.1 HE.out.2.2 HE.out.2.1)) HE.out.2.1 (Nat.le_trans HE.out.2.2 H1.out.1.size) HN.out.1 HN.out.2).mono ?_; rintro e_ w2 ⟨rfl, hg, hr⟩; have H2 := Lib.hid (And.intro (grown_trans H1.out.1 hg) hr); clear hg hr)))
  go_ret2
  exact ⟨_, rfl, H2.out.1, (HE.out.1.below (grown_below H2.out.1 HE.out.2.2 HE.out.2.1)).errE, _, H2.out.2⟩
end Go.Proofs.YtgdbeiadlgkedaaDoor
set_option linter.unusedVariables false
set_option linter.unusedSimpArgs false
namespace Go.Proofs.YtgdbeiadlgkedaaDoor
open Go.RowKit
theorem sizeSb : (Tryd.prog.info? 187).map (·.size) = some 2 := by kernel_rfl
theorem liesSb : liesAt Tryd.prog Tryd.prog.depth 187 (2 / Tryd.prog.cellsOf 187) 0 187 1 = true := by kernel_rfl
set_option maxHeartbeats 1000000 in
set_option maxRecDepth 100000 in
theorem sbCheck_used (b : Nat) (w : World) (h0 : w.cell? ⟨b, 0, none⟩ = some (.pointer (some ⟨b, 0, none⟩))) :
    Calls Tryd.prog 110 #[.pointer (some ⟨b, 0, none⟩)] w fun e w' => e = .returned (.tuple #[]) ∧ w' = w := by
  obtain ⟨j, hj, _⟩ := Option.map_eq_some_iff.1 sizeSb
  go_enter Tryd.func110, Tryd.ntmps110
  go_wp2
  rw [Lib.run_neq_ptr_same w _ Tryd.underlying185 hj]
  go_wp2
  go_end0
  exact ⟨rfl, rfl⟩
set_option maxHeartbeats 1000000 in
set_option maxRecDepth 100000 in
theorem sbCheck_fresh (b : Nat) (w : World) (h0 : w.cell? ⟨b, 0, none⟩ = some (.pointer none)) (hsh : w.shape? b = some (187, 2)) (hfz : w.frozen? ⟨b, 0, none⟩ = false) :
    Calls Tryd.prog 110 #[.pointer (some ⟨b, 0, none⟩)] w fun e w' => e = .returned (.tuple #[]) ∧ w' = w.setCell ⟨b, 0, none⟩ (.pointer (some ⟨b, 0, none⟩)) := by
  obtain ⟨j, hj, hjs⟩ := Option.map_eq_some_iff.1 sizeSb
  go_enter Tryd.func110, Tryd.ntmps110
  go_wp2
  rw [Lib.run_to_unsafe w ⟨b, 0, none⟩ Tryd.underlying185 Tryd.underlying190 hj (by rw [hjs]; decide) hsh (Nat.zero_lt_succ 1)]
  simp only [Result.andThen]
  rw [Oper.upon_value]
  go_wp2
  rw [run_callFunc_extern Tryd.func111 (by kernel_rfl) (by kernel_rfl) (by kernel_rfl) (e := Extern.AbiNoEscape.same) (by kernel_rfl)]
  rw [Lib.run_noEscape]
  simp only [Result.andThen]
  rw [Oper.upon_value]
  go_wp2
  rw [Lib.run_from_unsafe w ⟨b, 0, none⟩ Tryd.underlying190 Tryd.underlying185 hj hsh liesSb]
  simp only [Result.andThen]
  rw [Oper.upon_value]
  go_wp2
  go_end0
  exact ⟨rfl, rfl⟩
theorem sbCheck (B b : Nat) (bs : List Value) (w : World) (h : Lib.IsBuilder 187 5 B b bs w) :
    Calls Tryd.prog 110 #[.pointer (some ⟨b, 0, none⟩)] w fun e w' => e = .returned (.tuple #[]) ∧ Lib.BuilderAt 187 5 B b (.pointer (some ⟨b, 0, none⟩)) bs w' ∧ Below B w w' ∧ Lib.OthersKept 5 (some b) w w' := by
  rcases h with h | h
  · refine (sbCheck_fresh b w h.cell0 h.shape h.frozen0).mono ?_
    rintro e w' ⟨rfl, rfl⟩
    exact ⟨rfl, h.used _, (Below.refl B w).setCell (p := ⟨b, 0, none⟩) h.1 _, (Lib.OthersKept.refl 5 (some b) w).setCell ⟨b, 0, none⟩ rfl _⟩
  · refine (sbCheck_used b w h.cell0).mono ?_
    rintro e w' ⟨rfl, rfl⟩
    exact ⟨rfl, h, Below.refl B _, Lib.OthersKept.refl 5 (some b) _⟩
theorem At.others {w w' : World} {d : Nat} {l : List UInt8} (h : At w ⟨d, 0, none⟩ l) (hk : ∀ o, w.heap[d]? = some o → w'.heap[d]? = some o) : At w' ⟨d, 0, none⟩ l := by
  refine At.mk fun j x hj => ?_
  have hc := h.get hj
  rw [Nat.zero_add] at hc
  have hl : d < w.heap.size := World.block_lt_of_cell? _ _ hc
  refine (World.cell?_of_block (a := ⟨d, j, none⟩) ?_).trans hc
  exact (hk _ (Array.getElem?_eq_getElem hl)).trans (Array.getElem?_eq_getElem hl).symm
set_option maxHeartbeats 2000000 in
set_option maxRecDepth 100000 in
theorem sbWrite (B b : Nat) (l l2 : List UInt8) (d n c : Nat) (cur : Array Value) (T : TypeId) (w : World) (h : Lib.IsBuilder 187 5 B b (Lib.byteCells l) w) (hB : B ≤ w.heap.size) (hd : w.heap[d]? = some (.cells cur T (0, 0))) (hT : T ≠ 5) (hdb : d ≠ b) (hsrc : At w ⟨d, 0, none⟩ l2) (hn : l2.length = n) (hlim : l.length + n ≤ 140737488355328) :
    Calls Tryd.prog 108 #[.pointer (some ⟨b, 0, none⟩), .slice (some ⟨d, 0, none⟩) n c] w fun e w' => e = .returned (.tuple #[.int .i64 n, .nilIface]) ∧ Lib.BuilderAt 187 5 B b (.pointer (some ⟨b, 0, none⟩)) (Lib.byteCells (l ++ l2)) w' ∧ Below B w w' ∧ Lib.OthersKept 5 (some b) w w' := by
  obtain ⟨i0, hi, hz0, hz1, hz2⟩ := info_parts info_u8
  have H := Lib.hid h
  have HD := Lib.hid (And.intro hd (And.intro hT (And.intro hdb (And.intro hsrc (And.intro hn (And.intro hlim hB))))))
  clear h hd hT hdb hsrc hn hlim hB
  go_enter Tryd.func108, Tryd.ntmps108
  go_wp2_with (go_at_call 110; refine (sbCheck B b _ _ H.out).mono ?_)
  rintro e w1 ⟨rfl, h1, hb1, hk1⟩
  have HB1 := Lib.hid (And.intro hb1 hk1)
  have hsrc1 : At w1 ⟨d, 0, none⟩ l2 := HD.out.2.2.2.1.others (fun o ho => hk1 d o ho (fun e => HD.out.2.2.1 (Option.some.inj e)) (fun c fz e => by have hd := HD.out.1; rw [ho] at hd; injection hd with hd; rw [hd] at e; injection e with _ e _; exact HD.out.2.1 e))
  obtain ⟨hB, v, hbk, hown, hne⟩ := h1
  have c0 : w1.cell? ⟨b, 0, none⟩ = some (.pointer (some ⟨b, 0, none⟩)) := by rw [Lib.cell_of_heap hbk]; rfl
  have c1 : w1.cell? ⟨b, 1, none⟩ = some v := by rw [Lib.cell_of_heap hbk]; rfl
  have HS1 := Lib.hid hsrc1
  clear hsrc1 hb1 hk1
  go_wp2_with (at_builtin; refine wpList_append_own _ rfl _ _ 29 rfl B 5 i0 (.int .u8 0) 1 1 Tryd.underlying29 hi hz0 hz1 hz2 rfl (by decide) _ _ _ rfl hown ⟨d, 0, none⟩ n c (Lib.byteCells l2) rfl ?c0 ?c1 ?c2 ?c3 ?c4 ?c5 ?_)
  case c0 => rw [Lib.byteCells_length, HD.out.2.2.2.2.1, Nat.mul_one]
  case c1 => exact HS1.out.cells
  case c2 => exact Lib.byteCells_one _
  case c3 => have := HD.out.2.2.2.2.2.1; rw [Lib.byteCells_length]; unfold maxLen; omega
  case c4 => have := HD.out.2.2.2.2.2.1; rw [Lib.byteCells_length]; omega
  case c5 => have := HB1.out.1.size; have := HD.out.2.2.2.2.2.2; omega
  intro v' w2 hown' hgrow _
  have hlt : b < w1.heap.size := blk_lt hbk
  have hb2 : w2.heap[b]? = some (.cells #[.pointer (some ⟨b, 0, none⟩), v] 187 (0, 0)) := by
    rw [hgrow.block b hlt (fun e => hne e.symm)]
    exact hbk
  have d0 : w2.cell? ⟨b, 0, none⟩ = some (.pointer (some ⟨b, 0, none⟩)) := by rw [Lib.cell_of_heap hb2]; rfl
  have d1 : w2.cell? ⟨b, 1, none⟩ = some v := by rw [Lib.cell_of_heap hb2]; rfl
  have f1 : w2.frozen? ⟨b, 1, none⟩ = false := Lib.frozen_of_heap hb2 1
  obtain ⟨ao, n', cap, rfl⟩ : ∃ ao n' cap, v' = .slice ao n' cap := by
    rcases hown'.2 with ⟨hv, _⟩ | ⟨g, cap, cur, hv, _⟩
    · exact ⟨_, _, _, hv⟩
    · exact ⟨_, _, _, hv⟩
  have hrow : ∀ g, v.ownBlock = some g → ∃ c fz, w1.heap[g]? = some (.cells c 5 fz) := by
    intro g hg
    rcases hown.2 with ⟨rfl, _⟩ | ⟨g2, cap, cur, rfl, _, h3, _⟩
    · simp [Value.ownBlock] at hg
    · simp only [Value.ownBlock, Option.some.injEq] at hg
      subst hg
      exact ⟨_, _, h3⟩
  go_wp2
  go_ret2
  refine ⟨rfl, ?_, ?_, ?_⟩
  · rw [Lib.byteCells_append]
    exact Lib.BuilderAt.put (T := 187) (e := 5) hB hb2 (bs' := Lib.byteCells l ++ Lib.byteCells l2) (by rw [List.length_append, Lib.byteCells_length l2, HD.out.2.2.2.2.1]; exact hown') (by decide)
  · exact (HB1.out.1.grown hgrow (by have := HB1.out.1.size; have := HD.out.2.2.2.2.2.2; omega) (fun k hk => (hown.lt k hk).1)).setCell (p := ⟨b, 1, none⟩) hB _
  · exact (HB1.out.2.grown hgrow hrow).setCell ⟨b, 1, none⟩ rfl _
end Go.Proofs.YtgdbeiadlgkedaaDoor
set_option linter.unusedVariables false
set_option linter.unusedSimpArgs false
namespace Go.Proofs.YtgdbeiadlgkedaaDoor
open Go.RowKit
def B64 (w : World) (d : Nat) : Prop := ∃ cur, w.heap[d]? = some (.cells cur 188 (0, 0)) ∧ cur.size = 64
theorem B64.others {w w' : World} {d b : Nat} (h : B64 w d) (hk : Lib.OthersKept 5 (some b) w w') (hd : d ≠ b) : B64 w' d := by
  obtain ⟨cur, h1, h2⟩ := h
  exact ⟨cur, hk d _ h1 (by simpa using hd) (fun c fz e => by injection e with _ e _; cases e), h2⟩
theorem chunk_ok (pe pl : Addr) (B r g : Nat) (l : List UInt8) (i d m : Nat) (w : World) (h : Rd r g l i w) (he : Env B pe pl w) (hd : B64 w d) (hdr : d ≠ r) (hdg : d ≠ g) (hm : m ≤ 64) (hi : i + m ≤ l.length) :
    Calls Tryd.prog 94 #[rdI r, .slice (some ⟨d, 0, none⟩) m 64] w fun e w' => e = .returned .nilIface ∧ Rd r g l (i + m) w' ∧ At w' ⟨d, 0, none⟩ ((l.drop i).take m) ∧ B64 w' d ∧ Two r d w w' := by
  obtain ⟨cur, h1, h2⟩ := hd
  have hle := h.le
  by_cases hi2 : i < l.length
  · exact (readNB_some r g l i d m 64 cur 188 w h hi2 h1 hdr hdg hi (by omega) (by decide) hm).mono fun e w' ⟨a1, a2, a3, a4⟩ => ⟨a1, a2, At.mk fun j x hj => (blk_cell a3 j).trans (laidAt_get hj), ⟨_, a3, by unfold laidAt; simp [cellsOf_len]; omega⟩, a4⟩
  · obtain rfl : i = l.length := by omega
    obtain rfl : m = 0 := by omega
    exact (readNB_none r g l d 64 _ w h he.eof (by decide)).mono fun e w' ⟨a1, q, a2⟩ => by
      subst a2
      exact ⟨a1, h.drewN q, At.mk fun j x hj => by simp at hj, ⟨cur, h1, h2⟩, (Two.refl r d w).drewN q⟩
theorem chunk_bad (pe pl : Addr) (B r g : Nat) (l : List UInt8) (i d m : Nat) (w : World) (h : Rd r g l i w) (he : Env B pe pl w) (hBr : B ≤ r) (hBd : B ≤ d) (hd : B64 w d) (hdr : d ≠ r) (hdg : d ≠ g) (hm : m ≤ 64) (hi : l.length < i + m) :
    Calls Tryd.prog 94 #[rdI r, .slice (some ⟨d, 0, none⟩) m 64] w fun e w' => e = .returned (errV pe) ∧ Rd r g l l.length w' ∧ Two r d w w' := by
  obtain ⟨cur, h1, h2⟩ := hd
  have hle := h.le
  by_cases hi2 : i < l.length
  · exact readNB_few r g l i d m 64 cur 188 _ _ w h hi2 h1 hdr hdg (by omega) (by omega) hm he.eof (by have := he.b0; omega) (by have := he.b0; omega) (by omega)
  · obtain rfl : i = l.length := by omega
    exact (readNB_eof r g l d m 64 _ _ w h he.eof hm (by omega)).mono fun e w' ⟨a1, q, a2⟩ => ⟨a1, by rw [a2]; exact h.drewN q, by rw [a2]; exact (Two.refl r d w).drewN q⟩
theorem sb_two {B b r d : Nat} {l : List UInt8} {w w' : World} (h : Lib.IsBuilder 187 5 B b (Lib.byteCells l) w) (hr : r < B) (hd : B64 w d) (hdb : d ≠ b) (h2 : Two r d w w') : Lib.IsBuilder 187 5 B b (Lib.byteCells l) w' := by
  obtain ⟨cur, hd, _⟩ := hd
  have main : ∀ p, Lib.BuilderAt 187 5 B b p (Lib.byteCells l) w → Lib.BuilderAt 187 5 B b p (Lib.byteCells l) w' := by
    rintro p ⟨hB, v, hbk, hown, hne⟩
    refine ⟨hB, v, (h2.block b (blk_lt hbk) (by omega) (fun e => hdb e.symm)).trans hbk, ⟨hown.1, ?_⟩, hne⟩
    rcases hown.2 with h3 | ⟨g, cap, c, e1, e2, e3, e4⟩
    · exact .inl h3
    · refine .inr ⟨g, cap, c, e1, e2, (h2.block g (blk_lt e3) (by omega) ?_).trans e3, e4⟩
      rintro rfl
      rw [e3] at hd
      injection hd with hd
      injection hd with _ hd _
      cases hd
  exact h.imp (main _) (main _)
theorem Rd.belowB {r g B : Nat} {l : List UInt8} {i : Nat} {w w' : World} (h : Rd r g l i w) (hb : Below B w w') (hr : r < B) (hg : g < B) : Rd r g l i w' := h.keptRG (hb.block r hr) (hb.block g hg)
theorem grown_belowB {r : Nat} {a b c : World} (h : a.grownBy b (some r)) (k : Below a.heap.size b c) : a.grownBy c (some r) :=
  ⟨k.os.trans h.os, k.tape.trans h.tape, k.output.trans h.output, Nat.le_trans h.size k.size, fun i hi hn => (k.block i hi).trans (h.block i hi hn)⟩
end Go.Proofs.YtgdbeiadlgkedaaDoor
set_option linter.unusedVariables false
set_option linter.unusedSimpArgs false
namespace Go.Proofs.YtgdbeiadlgkedaaDoor
open Go.RowKit
theorem sb_kept {B b : Nat} {bs : List Value} {w w' : World} (h : Lib.IsBuilder 187 5 B b bs w) (hk : ∀ k, k < w.heap.size → w'.heap[k]? = w.heap[k]?) : Lib.IsBuilder 187 5 B b bs w' := by
  have main : ∀ p, Lib.BuilderAt 187 5 B b p bs w → Lib.BuilderAt 187 5 B b p bs w' := by
    rintro p ⟨hB, v, hbk, hown, hne⟩
    refine ⟨hB, v, (hk b (blk_lt hbk)).trans hbk, ⟨hown.1, ?_⟩, hne⟩
    rcases hown.2 with h3 | ⟨g, cap, c, e1, e2, e3, e4⟩
    · exact .inl h3
    · exact .inr ⟨g, cap, c, e1, e2, (hk g (blk_lt e3)).trans e3, e4⟩
  exact h.imp (main _) (main _)
structure Ds (w : World) (r g : Nat) (l : List UInt8) (i j : Nat) (wr : World) : Prop where
  rd : Rd r g l (i + j) wr
  sb : Lib.IsBuilder 187 5 w.heap.size w.heap.size (Lib.byteCells ((l.drop i).take j)) wr
  ar : B64 wr (w.heap.size + 1)
  gr : w.grownBy wr (some r)
  sz : w.heap.size + 2 ≤ wr.heap.size
theorem Ds.start {w : World} {r g : Nat} {l : List UInt8} {i : Nat} (h : Rd r g l i w) (cur : Array Value) (hc : cur.size = 64) : Ds w r g l i 0 ((w.alloc (.cells #[.pointer none, .slice none 0 0] 187)).alloc (.cells cur 188)) where
  rd := (h.alloc _).alloc _
  sb := sb_kept (Lib.fresh_isBuilder 187 5 w) fun k hk => Below.heap_alloc _ _ k hk
  ar := ⟨cur, by have := heap_alloc_new (w.alloc (.cells #[.pointer none, .slice none 0 0] 187)) (.cells cur 188); rwa [World.size_alloc] at this, hc⟩
  gr := grown_alloc (grown_alloc (grown_refl w) _) _
  sz := by simp only [World.size_alloc]; omega
theorem take_add2 (l : List UInt8) (i j m : Nat) : (l.drop i).take j ++ (l.drop (i + j)).take m = (l.drop i).take (j + m) := by
  rw [List.take_add, List.drop_drop]
theorem Ds.read {w wr w1 : World} {r g : Nat} {l : List UInt8} {i j m : Nat} (h : Ds w r g l i j wr) (hr : r < w.heap.size) (hg : g < w.heap.size) (h1 : Rd r g l (i + j + m) w1) (h3 : B64 w1 (w.heap.size + 1)) (h4 : Two r (w.heap.size + 1) wr w1) :
    Lib.IsBuilder 187 5 w.heap.size w.heap.size (Lib.byteCells ((l.drop i).take j)) w1 ∧ w.grownBy w1 (some r) ∧ w.heap.size + 2 ≤ w1.heap.size ∧ B64 w1 (w.heap.size + 1) ∧ Rd r g l (i + j + m) w1 :=
  ⟨sb_two h.sb hr h.ar (by omega) h4, Two.grown h.gr h4 (by omega), Nat.le_trans h.sz h4.size, h3, h1⟩
theorem Ds.next {w w1 w2 : World} {r g : Nat} {l : List UInt8} {i j m : Nat} (hr : r < w.heap.size) (hg : g < w.heap.size) (h : Lib.IsBuilder 187 5 w.heap.size w.heap.size (Lib.byteCells ((l.drop i).take j)) w1 ∧ w.grownBy w1 (some r) ∧ w.heap.size + 2 ≤ w1.heap.size ∧ B64 w1 (w.heap.size + 1) ∧ Rd r g l (i + j + m) w1)
    (h1 : Lib.BuilderAt 187 5 w.heap.size w.heap.size (.pointer (some ⟨w.heap.size, 0, none⟩)) (Lib.byteCells ((l.drop i).take j ++ (l.drop (i + j)).take m)) w2) (h2 : Below w.heap.size w1 w2) (h3 : Lib.OthersKept 5 (some w.heap.size) w1 w2) : Ds w r g l i (j + m) w2 where
  rd := by rw [← Nat.add_assoc]; exact h.2.2.2.2.belowB h2 hr hg
  sb := by rw [← take_add2]; exact .inr h1
  ar := h.2.2.2.1.others h3 (by omega)
  gr := grown_belowB h.2.1 h2
  sz := Nat.le_trans h.2.2.1 h2.size
set_option maxHeartbeats 8000000 in
set_option maxRecDepth 100000 in
theorem decS_any (B : Nat) (pe pl : Addr) (r g : Nat) (l : List UInt8) (i n : Nat) (w : World) (h : Rd r g l i w) (he : Env B pe pl w) (hBr : B ≤ r) (hB : B ≤ w.heap.size) (hn2 : n ≤ 1000000) :
    Calls Tryd.prog 98 #[.int .i64 n, rdI r] w fun e w' =>
      (i + n ≤ l.length ∧ e = .returned (.tuple #[.string ⟨((l.drop i).take n).toArray⟩, .nilIface]) ∧ w.grownBy w' (some r) ∧ Rd r g l (i + n) w') ∨
      (l.length < i + n ∧ e = .returned (.tuple #[.string ⟨#[]⟩, errV pe]) ∧ w.grownBy w' (some r) ∧ Rd r g l l.length w') := by
  have hrw := h.lt
  have hgw := h.ltg
  have HR := Lib.hid (show r < w.heap.size ∧ g < w.heap.size ∧ w.heap.size + 1 ≠ r ∧ w.heap.size + 1 ≠ g ∧ w.heap.size + 1 ≠ w.heap.size by omega)
  have H := Lib.hid h
  have HE := Lib.hid (And.intro he (And.intro hBr (And.intro hB hn2)))
  have q1 : (n : Int) ≤ 1000000 := by omega
  clear h he hBr hB hn2 hrw hgw
  go_enter Tryd.func98, Tryd.ntmps98
  go_wp2
  go_loopg [8] n (fun kq v8 wr => ∃ j : Nat, kq + j = n ∧ v8 = .int .i64 (kq : Int) ∧ Hid (Ds w r g l i j wr))
  case atStart => exact ⟨0, rfl, rfl, Lib.hid (Ds.start H.out _ rfl)⟩
  case round =>
    obtain ⟨j, hkj, rfl, HD⟩ := hrel
    have hEr : Env B pe pl wr := HE.out.1.below (grown_below HD.out.gr HE.out.2.2.1 HE.out.2.1)
    have HER := Lib.hid hEr
    have HJ := Lib.hid hkj
    have q2 : (gk : Int) ≤ 1000000 := by omega
    clear hEr hkj
    have hlj : ((l.drop i).take j).length ≤ 4294967296 := by have := HD.out.rd.len; rw [List.length_take, List.length_drop]; omega
    have HLJ := Lib.hid hlj
    clear hlj
    by_cases hlt : 64 < gk
    · have hc : 64 < (gk : Int) := by omega
      have HLT := Lib.hid hlt
      have e64 : (gk : Int) - 64 = ((gk - 64 : Nat) : Int) := by omega
      clear hlt
      by_cases hin : i + j + 64 ≤ l.length
      · have HIN := Lib.hid hin
        clear hin
        go_wp2_with (go_at_call 94; go_loud (refine (chunk_ok pe pl B r g l (i + j) (w.heap.size + 1) 64 wr HD.out.rd HER.out HD.out.ar HR.out.2.2.1 HR.out.2.2.2.1 (Nat.le_refl _) HIN.out).mono ?_; rintro e_ w1 ⟨rfl, h1, h2, h3, h4⟩; have H1 := Lib.hid (HD.out.read HR.out.1 HR.out.2.1 h1 h3 h4); have HA := Lib.hid h2; have HC := Lib.hid h3; clear h1 h2 h3 h4))
        obtain ⟨cur, hcur, hcs⟩ := HC.out
        have HCU := Lib.hid hcur
        have HLL := Lib.hid (show ((l.drop (i + j)).take 64).length = 64 by have := HIN.out; rw [List.length_take, List.length_drop]; omega)
        clear hcur hcs
        go_wp2_with (go_at_call 108; go_loud (refine (sbWrite w.heap.size w.heap.size _ ((l.drop (i + j)).take 64) (w.heap.size + 1) 64 64 cur 188 w1 H1.out.1 (by have := H1.out.2.2.1; omega) HCU.out (by decide) HR.out.2.2.2.2 HA.out HLL.out (by have := HLJ.out; omega)).mono ?_; rintro e_ w2 ⟨rfl, h5, h6, h7⟩; have H2 := Lib.hid (Ds.next HR.out.1 HR.out.2.1 H1.out h5 h6 h7); clear h5 h6 h7))
        go_roundg (gk - 64)
        case measure => have := HLT.out; omega
        case rel => exact ⟨j + 64, by have := HLT.out; have := HJ.out; omega, by rw [← e64], Lib.hid H2.out⟩
      · have HIN := Lib.hid (show l.length < i + j + 64 by omega)
        have HNN := Lib.hid (show l.length < i + n by have := HLT.out; have := HJ.out; omega)
        clear hin
        go_wp2_with (go_at_call 94; go_loud (refine (chunk_bad pe pl B r g l (i + j) (w.heap.size + 1) 64 wr HD.out.rd HER.out HE.out.2.1 (by have := HE.out.2.2.1; omega) HD.out.ar HR.out.2.2.1 HR.out.2.2.2.1 (Nat.le_refl _) HIN.out).mono ?_; rintro e_ w1 ⟨rfl, h1, h2⟩; have H1 := Lib.hid (And.intro h1 (Two.grown HD.out.gr h2 (by omega))); clear h1 h2))
        go_ret2
        exact .inr ⟨HNN.out, rfl, H1.out.2, H1.out.1⟩
    · have hc : ¬ 64 < (gk : Int) := by omega
      have hc2 : (gk : Int) ≤ 64 := by omega
      have HLT := Lib.hid (show gk ≤ 64 by omega)
      clear hlt
      by_cases hin : i + j + gk ≤ l.length
      · have HIN := Lib.hid hin
        clear hin
        go_wp2_with (go_at_call 94; go_loud (refine (chunk_ok pe pl B r g l (i + j) (w.heap.size + 1) gk wr HD.out.rd HER.out HD.out.ar HR.out.2.2.1 HR.out.2.2.2.1 HLT.out HIN.out).mono ?_; rintro e_ w1 ⟨rfl, h1, h2, h3, h4⟩; have H1 := Lib.hid (HD.out.read HR.out.1 HR.out.2.1 h1 h3 h4); have HA := Lib.hid h2; have HC := Lib.hid h3; clear h1 h2 h3 h4))
        obtain ⟨cur, hcur, hcs⟩ := HC.out
        have HCU := Lib.hid hcur
        have HLL := Lib.hid (show ((l.drop (i + j)).take gk).length = gk by have := HIN.out; rw [List.length_take, List.length_drop]; omega)
        clear hcur hcs
        go_wp2_with (go_at_call 108; go_loud (refine (sbWrite w.heap.size w.heap.size _ ((l.drop (i + j)).take gk) (w.heap.size + 1) gk 64 cur 188 w1 H1.out.1 (by have := H1.out.2.2.1; omega) HCU.out (by decide) HR.out.2.2.2.2 HA.out HLL.out (by have := HLJ.out; have := HLT.out; omega)).mono ?_; rintro e_ w2 ⟨rfl, h5, h6, h7⟩; have H2 := Lib.hid (Ds.next HR.out.1 HR.out.2.1 H1.out h5 h6 h7); clear h5 h6 h7))
        go_wp2_with (go_at_call 109; go_loud (refine (Tryd.Builder_String_any w.heap.size w.heap.size _ w2 H2.out.sb (by have := H2.out.sz; omega)).mono ?_; rintro e_ w3 ⟨rfl, h8⟩; have H3 := Lib.hid h8; clear h8))
        go_ret2
        have hjn : j + gk = n := by have := HJ.out; omega
        have hrd := H2.out.rd.belowB H3.out HR.out.1 HR.out.2.1
        rw [hjn] at hrd
        exact .inl ⟨by have := HIN.out; omega, by rw [hjn]; rfl, grown_belowB H2.out.gr H3.out, hrd⟩
      · have HIN := Lib.hid (show l.length < i + j + gk by omega)
        have HNN := Lib.hid (show l.length < i + n by have := HJ.out; omega)
        clear hin
        go_wp2_with (go_at_call 94; go_loud (refine (chunk_bad pe pl B r g l (i + j) (w.heap.size + 1) gk wr HD.out.rd HER.out HE.out.2.1 (by have := HE.out.2.2.1; omega) HD.out.ar HR.out.2.2.1 HR.out.2.2.2.1 HLT.out HIN.out).mono ?_; rintro e_ w1 ⟨rfl, h1, h2⟩; have H1 := Lib.hid (And.intro h1 (Two.grown HD.out.gr h2 (by omega))); clear h1 h2))
        go_ret2
        exact .inr ⟨HNN.out, rfl, H1.out.2, H1.out.1⟩
end Go.Proofs.YtgdbeiadlgkedaaDoor
set_option linter.unusedVariables false
set_option linter.unusedSimpArgs false
namespace Go.Proofs.YtgdbeiadlgkedaaDoor
open Go.RowKit
set_option maxHeartbeats 4000000 in
set_option maxRecDepth 100000 in
theorem decString_ok (B : Nat) (pe pl : Addr) (r g : Nat) (l : List UInt8) (i v k : Nat) (w : World) (h : Rd r g l i w) (he : Env B pe pl w) (hBr : B ≤ r) (hB : B ≤ w.heap.size) (hR : vrd 0 0 (l.drop i) = some (v, k)) (hv : v ≤ 1000000) (hn : i + k + v ≤ l.length) :
    Calls Tryd.prog 57 #[rdI r] w fun e w' => e = .returned (.tuple #[.string ⟨((l.drop (i + k)).take v).toArray⟩, .nilIface]) ∧ w.grownBy w' (some r) ∧ Rd r g l (i + k + v) w' := by
  have hC := decVarI_ok B pe pl r g l i v k w h he hBr hR
  rw [wrap_small v hv] at hC
  have HC := Lib.hid hC
  have HE := Lib.hid (And.intro he (And.intro hBr hB))
  have HN := Lib.hid (And.intro hn hv)
  clear h he hBr hB hR hC hn hv
  go_enter Tryd.func57, Tryd.ntmps57
  go_wp2_with (first
    | (go_at_call 60; go_loud (refine HC.out.mono ?_; rintro e_ w1 ⟨rfl, hg, hr⟩; have H1 := Lib.hid (And.intro hg hr); clear hg hr))
    | (go_at_call 98; go_loud (refine (decS_any B pe pl r g l (i + k) v w1 H1.out.2 (HE.out.1.below (grown_below H1.out.1 HE.out.2.2 HE.out.2.1)) HE.out.2.1 (Nat.le_trans HE.out.2.2 H1.out.1.size) HN.out.2).mono ?_; rintro e_ w2 hd; replace hd := hd.resolve_right (fun x => Nat.not_lt.2 HN.out.1 x.1); obtain ⟨_, rfl, hg, hr⟩ := hd; have H2 := Lib.hid (And.intro (grown_trans H1.out.1 hg) hr); clear hg hr)))
  go_ret2
  exact ⟨rfl, H2.out.1, H2.out.2⟩
set_option maxHeartbeats 4000000 in
set_option maxRecDepth 100000 in
theorem decString_few (B : Nat) (pe pl : Addr) (r g : Nat) (l : List UInt8) (i v k : Nat) (w : World) (h : Rd r g l i w) (he : Env B pe pl w) (hBr : B ≤ r) (hB : B ≤ w.heap.size) (hR : vrd 0 0 (l.drop i) = some (v, k)) (hv : v ≤ 1000000) (hn : l.length < i + k + v) :
    Calls Tryd.prog 57 #[rdI r] w fun e w' => ∃ ev, e = .returned (.tuple #[.string ⟨#[]⟩, ev]) ∧ Fell r g l w w' ev := by
  have hC := decVarI_ok B pe pl r g l i v k w h he hBr hR
  rw [wrap_small v hv] at hC
  have HC := Lib.hid hC
  have HE := Lib.hid (And.intro he (And.intro hBr hB))
  have HN := Lib.hid (And.intro hn hv)
  clear h he hBr hB hR hC hn hv
  go_enter Tryd.func57, Tryd.ntmps57
  go_wp2_with (first
    | (go_at_call 60; go_loud (refine HC.out.mono ?_; rintro e_ w1 ⟨rfl, hg, hr⟩; have H1 := Lib.hid (And.intro hg hr); clear hg hr))
    | (go_at_call 98; go_loud (refine (decS_any B pe pl r g l (i + k) v w1 H1.out.2 (HE.out.1.below (grown_below H1.out.1 HE.out.2.2 HE.out.2.1)) HE.out.2.1 (Nat.le_trans HE.out.2.2 H1.out.1.size) HN.out.2).mono ?_; rintro e_ w2 hd; replace hd := hd.resolve_left (fun x => Nat.not_lt.2 x.1 HN.out.1); obtain ⟨_, rfl, hg, hr⟩ := hd; have H2 := Lib.hid (And.intro (grown_trans H1.out.1 hg) hr); clear hg hr)))
  go_ret2
  exact ⟨_, rfl, H2.out.1, (HE.out.1.below (grown_below H2.out.1 HE.out.2.2 HE.out.2.1)).errE, _, H2.out.2⟩
set_option maxHeartbeats 4000000 in
set_option maxRecDepth 100000 in
theorem decString_bad (B : Nat) (pe pl : Addr) (r g : Nat) (l : List UInt8) (i : Nat) (w : World) (h : Rd r g l i w) (he : Env B pe pl w) (hBr : B ≤ r) (hR : vrd 0 0 (l.drop i) = none) :
    Calls Tryd.prog 57 #[rdI r] w fun e w' => ∃ ev, e = .returned (.tuple #[.string ⟨#[]⟩, ev]) ∧ Fell r g l w w' ev := by
  have HC := Lib.hid (decVarI_bad B pe pl r g l i w h he hBr hR)
  clear h he hBr hR
  go_enter Tryd.func57, Tryd.ntmps57
  go_wp2_with (go_at_call 60; go_loud (refine HC.out.mono ?_; rintro e_ w1 ⟨ev, rfl, hf⟩; have H1 := Lib.hid hf; obtain ⟨_, ⟨ea, es, rfl, _⟩, _⟩ := hf))
  go_ret2
  exact ⟨_, rfl, H1.out⟩
theorem decString0_ok (B : Nat) (pe pl : Addr) (r g : Nat) (l : List UInt8) (v k : Nat) (w : World) (h : Rd r g l 0 w) (he : Env B pe pl w) (hBr : B ≤ r) (hB : B ≤ w.heap.size) (hR : vrd 0 0 l = some (v, k) ∧ v ≤ 1000000 ∧ k + v ≤ l.length) :
    Calls Tryd.prog 57 #[rdI r] w fun e w' => e = .returned (.tuple #[.string ⟨((l.drop k).take v).toArray⟩, .nilIface]) ∧ w.grownBy w' (some r) ∧ Rd r g l (0 + (k + v)) w' := by
  have := decString_ok B pe pl r g l 0 v k w h he hBr hB hR.1 hR.2.1 (by omega)
  rwa [Nat.zero_add, ← Nat.zero_add (k + v)] at this
theorem decString0_few (B : Nat) (pe pl : Addr) (r g : Nat) (l : List UInt8) (w : World) (h : Rd r g l 0 w) (he : Env B pe pl w) (hBr : B ≤ r) (hB : B ≤ w.heap.size) (hR : vrd 0 0 l = none ∨ ∃ v k, vrd 0 0 l = some (v, k) ∧ v ≤ 1000000 ∧ l.length < k + v) :
    Calls Tryd.prog 57 #[rdI r] w fun e w' => ∃ ev, e = .returned (.tuple #[.string ⟨#[]⟩, ev]) ∧ Fell r g l w w' ev := by
  rcases hR with hR | ⟨v, k, h1, h2, h3⟩
  · exact decString_bad B pe pl r g l 0 w h he hBr hR
  · exact decString_few B pe pl r g l 0 v k w h he hBr hB h1 h2 (by omega)
theorem decBytes0_ok (B : Nat) (pe pl : Addr) (r g : Nat) (l : List UInt8) (v k : Nat) (w : World) (h : Rd r g l 0 w) (he : Env B pe pl w) (hBr : B ≤ r) (hB : B ≤ w.heap.size) (hR : vrd 0 0 l = some (v, k) ∧ v ≤ 1000000 ∧ k + v ≤ l.length) :
    Calls Tryd.prog 48 #[rdI r] w fun e w' => ∃ d : Nat, e = .returned (.tuple #[.slice (some ⟨d, 0, none⟩) v v, .nilIface]) ∧ At w' ⟨d, 0, none⟩ ((l.drop k).take v) ∧ w.grownBy w' (some r) ∧ Rd r g l (0 + (k + v)) w' := by
  have := decBytes_ok B pe pl r g l 0 v k w h he hBr hB hR.1 hR.2.1 (by omega)
  rwa [Nat.zero_add, ← Nat.zero_add (k + v)] at this
theorem decBytes0_few (B : Nat) (pe pl : Addr) (r g : Nat) (l : List UInt8) (w : World) (h : Rd r g l 0 w) (he : Env B pe pl w) (hBr : B ≤ r) (hB : B ≤ w.heap.size) (hR : vrd 0 0 l = none ∨ ∃ v k, vrd 0 0 l = some (v, k) ∧ v ≤ 1000000 ∧ l.length < k + v) :
    Calls Tryd.prog 48 #[rdI r] w fun e w' => ∃ ev, e = .returned (.tuple #[.slice none 0 0, ev]) ∧ Fell r g l w w' ev := by
  rcases hR with hR | ⟨v, k, h1, h2, h3⟩
  · exact decBytes_bad B pe pl r g l 0 w h he hBr hR
  · exact decBytes_few B pe pl r g l 0 v k w h he hBr hB h1 h2 (by omega)
theorem decString0_okK (B : Nat) (pe pl : Addr) (r g : Nat) (l : List UInt8) (v k K : Nat) (w : World) (h : Rd r g l 0 w) (he : Env B pe pl w) (hBr : B ≤ r) (hB : B ≤ w.heap.size) (hR : vrd 0 0 l = some (v, k) ∧ v ≤ 1000000 ∧ K ≤ l.length ∧ K = k + v) :
    Calls Tryd.prog 57 #[rdI r] w fun e w' => e = .returned (.tuple #[.string ⟨((l.drop k).take v).toArray⟩, .nilIface]) ∧ w.grownBy w' (some r) ∧ Rd r g l (0 + K) w' := by
  obtain ⟨h1, h2, h3, rfl⟩ := hR
  exact decString0_ok B pe pl r g l v k w h he hBr hB ⟨h1, h2, h3⟩
theorem decBytes0_okK (B : Nat) (pe pl : Addr) (r g : Nat) (l : List UInt8) (v k K : Nat) (w : World) (h : Rd r g l 0 w) (he : Env B pe pl w) (hBr : B ≤ r) (hB : B ≤ w.heap.size) (hR : vrd 0 0 l = some (v, k) ∧ v ≤ 1000000 ∧ K ≤ l.length ∧ K = k + v) :
    Calls Tryd.prog 48 #[rdI r] w fun e w' => ∃ d : Nat, e = .returned (.tuple #[.slice (some ⟨d, 0, none⟩) v v, .nilIface]) ∧ At w' ⟨d, 0, none⟩ ((l.drop k).take v) ∧ w.grownBy w' (some r) ∧ Rd r g l (0 + K) w' := by
  obtain ⟨h1, h2, h3, rfl⟩ := hR
  exact decBytes0_ok B pe pl r g l v k w h he hBr hB ⟨h1, h2, h3⟩
end Go.Proofs.YtgdbeiadlgkedaaDoor
