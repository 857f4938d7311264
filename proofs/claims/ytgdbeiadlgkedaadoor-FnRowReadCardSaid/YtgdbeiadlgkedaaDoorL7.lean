/- The walk of the statement on reads of n bytes. -/
import Derived.Test.YtgdbeiadlgkedaaDoorL6
import Derived.Laws.MakeOwn
namespace Go.Proofs.YtgdbeiadlgkedaaDoor
open Go.RowKit
open Go.Joins (below_bytesWorld)
set_option linter.unusedVariables false
set_option linter.unusedSimpArgs false

def mkz (n : Nat) : Obj := .cells (madeCells #[.int .u8 0] (n * 1)) 5
theorem mk_bytes (n : Nat) (hn : n ≤ 1000000) : ∀ W : World, (Instr.makeSlice 29 (.int .i64 (n : Int)) (.int .i64 (n : Int))).run Tryd.prog W = .ok (.slice (some ⟨W.heap.size, 0, none⟩) n n) (W.alloc (mkz n)) := by
  intro W
  have hm : (Tryd.prog.info? 5).map (fun i => (i.zero, i.size, i.bytes)) = some (some (.int .u8 0), 1, 1) := by kernel_rfl
  obtain ⟨i, hi, he⟩ := Option.map_eq_some_iff.1 hm
  simp only [Prod.mk.injEq] at he
  obtain ⟨hz, hs, hb⟩ := he
  have h := run_makeSlice (P := Tryd.prog) W 29 5 i _ Tryd.underlying29 hi hz .i64 .i64 (n : Int) (n : Int) (by omega) (Int.le_refl _) (by rw [hs]; simp; omega) (by rw [hb]; simp; omega) (by omega)
  rw [hs, show (Value.int .u8 0).cells = #[.int .u8 0] from rfl] at h
  simpa [mkz] using h
theorem mkz_size (n : Nat) : (madeCells #[.int .u8 0] (n * 1)).size = n := by rw [size_madeCells, Nat.mul_one]
set_option maxHeartbeats 4000000 in
set_option maxRecDepth 100000 in
/-- ReadN where there are enough bytes. -/
theorem readN_some (r g : Nat) (l : List UInt8) (n : Nat) (w : World) (h : Rd r g l 0 w) (hn0 : 0 < n) (hn : n ≤ l.length) (hn2 : n ≤ 1000000) :
    Calls Tryd.prog 87 #[rdI r, .int .i64 n] w fun e w' => e = .returned (.tuple #[.slice (some ⟨w.heap.size, 0, none⟩) n n, .nilIface]) ∧ At w' ⟨w.heap.size, 0, none⟩ (l.take n) ∧ w.grownBy w' (some r) := by
  have na := na_read (some ⟨r, 0, none⟩)
  have km := mk_bytes n hn2
  have hne := h.ge (mkz n)
  have H := Lib.hid (h.alloc (mkz n))
  have HD := Lib.hid (heap_alloc_new w (mkz n))
  have HN := Lib.hid (And.intro hn0 (And.intro hn hn2))
  have HZ := Lib.hid (mkz_size n)
  have hw : wrap64 (n : Int) = (n : Int) := IntWalk.wrap64_in _ (by omega)
  have hz : ¬ n = 0 := by omega
  have HNE := Lib.hid hne
  clear h hn0 hn hn2 hne
  go_enter Tryd.func87, Tryd.ntmps87
  go_wp2
  refine wp_loop_rounds 1 ?_; rw [rounds_succ]
  go_wp2
  go_region_with (go_at_call 127; go_loud (refine (read_some r g l 0 w.heap.size 0 n n n (madeCells #[.int .u8 0] (n * 1)) 5 _ ?_ (by have := HN.out; omega) ?_ HNE.out.1 HNE.out.2 (by have := HN.out; omega) (by rw [HZ.out]; omega)).mono ?_; exact H.out.drewN 1; exact HD.out; rintro e_ w1 ⟨rfl, h1, h2, h3⟩; have H1 := Lib.hid (And.intro h1 (And.intro h2 h3)); clear h1 h2 h3))
  go_wp2
  go_ret2
  obtain ⟨a1, a2, a3⟩ := H1.out
  refine ⟨rfl, ?_, ?_⟩
  · refine At.mk fun j x hj => (blk_cell a2 j).trans (laidAt_get ?_)
    simpa using hj
  · exact Two.grown (grown_alloc (grown_refl (r := r) w) _) (((Two.refl r w.heap.size _).drewN 1).trans a3) (Nat.le_refl _)
set_option maxHeartbeats 4000000 in
set_option maxRecDepth 100000 in
/-- ReadN of no byte, where there are some. -/
theorem readN_zero (r g : Nat) (l : List UInt8) (w : World) (h : Rd r g l 0 w) (hl : 0 < l.length) :
    Calls Tryd.prog 87 #[rdI r, .int .i64 0] w fun e w' => e = .returned (.tuple #[.slice (some ⟨w.heap.size, 0, none⟩) 0 0, .nilIface]) ∧ w.grownBy w' (some r) := by
  have na := na_read (some ⟨r, 0, none⟩)
  have km : ∀ W : World, (Instr.makeSlice 29 (.int .i64 0) (.int .i64 0)).run Tryd.prog W = .ok (.slice (some ⟨W.heap.size, 0, none⟩) 0 0) (W.alloc (mkz 0)) := fun W => mk_bytes 0 (by omega) W
  have hne := h.ge (mkz 0)
  have H := Lib.hid (h.alloc (mkz 0))
  have HD := Lib.hid (heap_alloc_new w (mkz 0))
  have HN := Lib.hid hl
  have HNE := Lib.hid hne
  clear h hl hne
  go_enter Tryd.func87, Tryd.ntmps87
  go_wp2
  refine wp_loop_rounds 1 ?_; rw [rounds_succ]
  go_wp2
  go_region_with (go_at_call 127; go_loud (refine (read_some r g l 0 w.heap.size 0 0 0 0 (madeCells #[.int .u8 0] (0 * 1)) 5 _ ?_ (by have := HN.out; omega) ?_ HNE.out.1 HNE.out.2 (by omega) (by omega)).mono ?_; exact H.out.drewN 1; exact HD.out; rintro e_ w1 ⟨rfl, h1, h2, h3⟩; have H1 := Lib.hid (And.intro h1 (And.intro h2 h3)); clear h1 h2 h3))
  go_wp2
  go_ret2
  obtain ⟨a1, a2, a3⟩ := H1.out
  exact ⟨rfl, Two.grown (grown_alloc (grown_refl (r := r) w) _) (((Two.refl r w.heap.size _).drewN 1).trans a3) (Nat.le_refl _)⟩
set_option maxHeartbeats 4000000 in
set_option maxRecDepth 100000 in
/-- ReadN of no byte at the end. -/
theorem readN_zero0 (r g : Nat) (l : List UInt8) (ev : Value) (w : World) (h : Rd r g l l.length w) (he : w.cell? ⟨0, 0, none⟩ = some ev) :
    Calls Tryd.prog 87 #[rdI r, .int .i64 0] w fun e w' => e = .returned (.tuple #[.slice (some ⟨w.heap.size, 0, none⟩) 0 0, .nilIface]) ∧ w.grownBy w' (some r) := by
  have na := na_read (some ⟨r, 0, none⟩)
  have km : ∀ W : World, (Instr.makeSlice 29 (.int .i64 0) (.int .i64 0)).run Tryd.prog W = .ok (.slice (some ⟨W.heap.size, 0, none⟩) 0 0) (W.alloc (mkz 0)) := fun W => mk_bytes 0 (by omega) W
  have H := Lib.hid (h.alloc (mkz 0))
  have HE := Lib.hid (show (w.alloc (mkz 0)).cell? ⟨0, 0, none⟩ = some ev from (World.cell?_of_block (a := ⟨0, 0, none⟩) (Below.heap_alloc w (mkz 0) _ (World.block_lt_of_cell? w _ he))).trans he)
  clear h he
  go_enter Tryd.func87, Tryd.ntmps87
  go_wp2
  refine wp_loop_rounds 1 ?_; rw [rounds_succ]
  go_wp2
  go_region_with (go_at_call 127; refine (read_end r g l _ _ _ ev _ ?_ ?_).mono ?_; exact H.out.drewN 1; exact HE.out; rintro e_ w1 ⟨rfl, q1, hq⟩; have HQ := Lib.hid hq; clear hq)
  go_wp2
  go_ret2
  exact ⟨rfl, by rw [HQ.out]; exact grown_drewN (grown_drewN (grown_alloc (grown_refl (r := r) w) _) 1) q1⟩
set_option maxHeartbeats 4000000 in
set_option maxRecDepth 100000 in
/-- ReadN at the end, for some bytes. -/
theorem readN_eof (r g : Nat) (l : List UInt8) (n : Nat) (te : TypeId) (pe : Value) (w : World) (h : Rd r g l l.length w) (he : w.cell? ⟨0, 0, none⟩ = some (.iface te pe)) (hn : 0 < n) (hn2 : n ≤ 1000000) :
    Calls Tryd.prog 87 #[rdI r, .int .i64 n] w fun e w' => e = .returned (.tuple #[.slice none 0 0, .iface te pe]) ∧ w.grownBy w' (some r) := by
  have na := na_read (some ⟨r, 0, none⟩)
  have km := mk_bytes n hn2
  have H := Lib.hid (h.alloc (mkz n))
  have HE := Lib.hid (show (w.alloc (mkz n)).cell? ⟨0, 0, none⟩ = some (.iface te pe) from (World.cell?_of_block (a := ⟨0, 0, none⟩) (Below.heap_alloc w (mkz n) _ (World.block_lt_of_cell? w _ he))).trans he)
  have hz : ¬ n = 0 := by omega
  have hw0 : ((0 : Int) == (n : Int)) = false := beq_eq_false_iff_ne.mpr (by omega)
  clear h he
  go_enter Tryd.func87, Tryd.ntmps87
  go_wp2
  refine wp_loop_rounds 1 ?_; rw [rounds_succ]
  go_wp2
  go_region_with (go_at_call 127; refine (read_end r g l _ _ _ (.iface te pe) _ ?_ ?_).mono ?_; exact H.out.drewN 1; exact HE.out; rintro e_ w1 ⟨rfl, q1, hq⟩; have HQ := Lib.hid hq; clear hq)
  go_wp2
  go_ret2
  exact ⟨rfl, by rw [HQ.out]; exact grown_drewN (grown_drewN (grown_alloc (grown_refl (r := r) w) _) 1) q1⟩
set_option maxHeartbeats 4000000 in
set_option maxRecDepth 100000 in
/-- ReadN where there are some bytes, but too few. -/
theorem readN_few (r g : Nat) (l : List UInt8) (n : Nat) (te : TypeId) (pe : Value) (w : World) (h : Rd r g l 0 w) (hi : 0 < l.length) (hn : l.length < n) (he : w.cell? ⟨0, 0, none⟩ = some (.iface te pe)) (her : 0 ≠ r) (hn2 : n ≤ 1000000) :
    Calls Tryd.prog 87 #[rdI r, .int .i64 n] w fun e w' => e = .returned (.tuple #[.slice none 0 0, .iface te pe]) ∧ w.grownBy w' (some r) := by
  have na := na_read (some ⟨r, 0, none⟩)
  have km := mk_bytes n hn2
  obtain ⟨m, hm⟩ : ∃ m, m = l.length := ⟨_, rfl⟩
  have hne := h.ge (mkz n)
  have hlt := World.block_lt_of_cell? w _ he
  have H := Lib.hid (h.alloc (mkz n))
  have HD := Lib.hid (heap_alloc_new w (mkz n))
  have HE := Lib.hid (show (w.alloc (mkz n)).cell? ⟨0, 0, none⟩ = some (.iface te pe) from (World.cell?_of_block (a := ⟨0, 0, none⟩) (Below.heap_alloc w (mkz n) _ hlt)).trans he)
  have HED := Lib.hid (show 0 ≠ w.heap.size from Nat.ne_of_lt hlt)
  have HL := Lib.hid h.len
  have HI := Lib.hid hi
  have HN := Lib.hid hn
  have HZ := Lib.hid (mkz_size n)
  have hz : ¬ n = 0 := by omega
  have hz2 : ¬ n = m := by omega
  have hz3 : (m : Int) ≤ (n : Int) := by omega
  have hz4 : m ≤ n := by omega
  have hw : wrap64 (m : Int) = (m : Int) := IntWalk.wrap64_in _ (by have := HL.out; omega)
  have q1 : ((m : Int) == (n : Int)) = false := beq_eq_false_iff_ne.mpr (by omega)
  have q2 : ((m : Int) == 0) = false := beq_eq_false_iff_ne.mpr (by omega)
  have HM := Lib.hid hm
  have HNE := Lib.hid hne
  have HER := Lib.hid her
  clear h he hi hn hm her hn2 hne hlt
  go_enter Tryd.func87, Tryd.ntmps87
  go_wp2
  refine wp_loop_rounds 2 ?_; rw [rounds_succ]
  go_wp2
  go_region_with (go_at_call 127; go_loud (refine (read_some r g l 0 w.heap.size 0 n n m (madeCells #[.int .u8 0] (n * 1)) 5 _ ?_ HI.out ?_ HNE.out.1 HNE.out.2 (by have := HM.out; have := HN.out; omega) (by rw [HZ.out]; omega)).mono ?_; exact H.out.drewN 1; exact HD.out; rintro e_ w1 ⟨rfl, h1, h2, h3⟩; have H1 := Lib.hid (And.intro h1 (And.intro h2 h3)); clear h1 h2 h3))
  go_wp2
  rw [rounds_succ]
  go_wp2
  have hil : 0 + m = l.length := by have := HM.out; omega
  have R1 := Lib.hid (hil ▸ H1.out.1)
  have E1 : w1.cell? ⟨0, 0, none⟩ = some (.iface te pe) := (World.cell?_of_block (a := ⟨0, 0, none⟩) (H1.out.2.2.block _ (World.block_lt_of_cell? _ _ HE.out) HER.out HED.out)).trans HE.out
  have HE1 := Lib.hid E1
  clear E1 hil
  go_region_with (go_at_call 127; refine (read_end r g l _ _ _ (.iface te pe) _ ?_ ?_).mono ?_; exact R1.out.drewN 1; exact HE1.out; rintro e_ w2 ⟨rfl, q3, hq⟩; have HQ := Lib.hid hq; clear hq)
  go_wp2
  go_ret2
  refine ⟨rfl, ?_⟩
  rw [HQ.out]
  exact grown_drewN (grown_drewN (Two.grown (grown_alloc (grown_refl (r := r) w) _) (((Two.refl r w.heap.size _).drewN 1).trans H1.out.2.2) (Nat.le_refl _)) 1) q3
end Go.Proofs.YtgdbeiadlgkedaaDoor
