/- Contracts and plain laws, several texts in one. -/
import Derived.Test.YtgdbeiadlgkedaaDoorMRowBack7
import Derived.Laws.MakeOwn
import Derived.WalkSmall
/- The walk of the statement on a row's nil bits. -/
namespace Go.Proofs.YtgdbeiadlgkedaaDoor
open Go.RowKit
open Go.Joins (below_bytesWorld)
set_option linter.unusedVariables false
set_option linter.unusedSimpArgs false

theorem bytes_at (w : World) (s : ByteArray) : At (Lib.bytesWorld w 5 s) ⟨w.heap.size, 0, none⟩ s.data.toList := At.mk fun j x hj => by
  have hjl : j < s.size := by have := (List.getElem?_eq_some_iff.1 hj).1; rwa [Array.length_toList] at this
  have := Lib.bytesWorld_cell w 5 s j hjl
  rw [List.getD_eq_getElem?_getD, hj] at this
  exact this
theorem nilBit (x : UInt8) (m : Nat) : (bits .and .u8 ((x.toNat : Int) / 2 ^ m) 1 == 1) = decide (x.toNat / 2 ^ m % 2 = 1) := by
  have e : (x.toNat : Int) / 2 ^ m = ((x.toNat / 2 ^ m : Nat) : Int) := by
    rw [Int.natCast_ediv, Int.natCast_pow]; rfl
  rw [e, and1 _ (Nat.lt_of_le_of_lt (Nat.div_le_self _ _) x.toNat_lt)]
  rcases (show x.toNat / 2 ^ m % 2 = 1 ∨ x.toNat / 2 ^ m % 2 = 0 by omega) with h | h <;> rw [h] <;> rfl
set_option maxHeartbeats 4000000 in
set_option maxRecDepth 100000 in
theorem isNil_in (b c : Nat) (s : ByteArray) (f : Nat) (x : UInt8) (w : World) (hf : f < 9223372036854775808) (hx : s.data.toList[f / 8]? = some x) (ha : w.cell? ⟨b, f / 8, none⟩ = some (.int .u8 x.toNat)) :
    Calls Tryd.prog 88 #[.slice (some ⟨b, 0, none⟩) s.size c, .int .i64 f] w fun e w' => e = .returned (.bool (x.toNat / 2 ^ (f % 8) % 2 = 1)) ∧ w = w' := by
  obtain ⟨q, hq⟩ : ∃ q, Hid (f / 8 = q) := ⟨_, Lib.hid rfl⟩
  obtain ⟨m, hm⟩ : ∃ m, Hid (f % 8 = m) := ⟨_, Lib.hid rfl⟩
  have a1 : (f : Int).tdiv 8 = (q : Int) := by rw [← hq.out]; exact (Int.ofNat_tdiv f 8).symm
  have a2 : (f : Int).tmod 8 = (m : Int) := by rw [← hm.out]; exact (Int.ofNat_tmod f 8).symm
  have a3 : wrap64 (q : Int) = (q : Int) := by have := hq.out; unfold wrap64; omega
  have a4 : wrap64 (m : Int) = (m : Int) := by have := hm.out; unfold wrap64; omega
  have a5 : (m : Int) % 256 = (m : Int) := by have := hm.out; omega
  have a6 : (m : Int) < 8 := by have := hm.out; omega
  have a7 : m < 8 := by have := hm.out; omega
  have hl : q < s.size := by
    have h1 := (List.getElem?_eq_some_iff.1 hx).1
    rw [Array.length_toList] at h1
    have := hq.out
    show q < s.data.size
    omega
  have h02 : ((s.size : Int) != 0) = true := by rw [bne_iff_ne]; omega
  have hl2 : (q : Int) < (s.size : Int) := by omega
  have hbit := nilBit x m
  rw [hq.out] at ha
  rw [hm.out]
  clear hx hf
  go_enter Tryd.func88, Tryd.ntmps88
  go_wp2
  go_ret
  exact ⟨rfl, rfl⟩
set_option maxHeartbeats 4000000 in
set_option maxRecDepth 100000 in
theorem isNil_out (b c : Nat) (s : ByteArray) (f : Nat) (w : World) (hf : f < 9223372036854775808) (hx : ¬ f / 8 < s.size) :
    Calls Tryd.prog 88 #[.slice (some ⟨b, 0, none⟩) s.size c, .int .i64 f] w fun e w' => e = .returned (.bool false) ∧ w = w' := by
  obtain ⟨q, hq⟩ : ∃ q, Hid (f / 8 = q) := ⟨_, Lib.hid rfl⟩
  obtain ⟨m, hm⟩ : ∃ m, Hid (f % 8 = m) := ⟨_, Lib.hid rfl⟩
  have a1 : (f : Int).tdiv 8 = (q : Int) := by rw [← hq.out]; exact (Int.ofNat_tdiv f 8).symm
  have a2 : (f : Int).tmod 8 = (m : Int) := by rw [← hm.out]; exact (Int.ofNat_tmod f 8).symm
  have a3 : wrap64 (q : Int) = (q : Int) := by have := hq.out; unfold wrap64; omega
  have a4 : wrap64 (m : Int) = (m : Int) := by have := hm.out; unfold wrap64; omega
  have a5 : (m : Int) % 256 = (m : Int) := by have := hm.out; omega
  have a6 : (m : Int) < 8 := by have := hm.out; omega
  have a7 : m < 8 := by have := hm.out; omega
  have hl2 : ¬ (q : Int) < (s.size : Int) := by have := hq.out; omega
  clear hx hf
  go_enter Tryd.func88, Tryd.ntmps88
  go_wp2
  go_ret
  exact ⟨rfl, rfl⟩
set_option maxHeartbeats 4000000 in
set_option maxRecDepth 100000 in
theorem rowNil_in (s : ByteArray) (f : Nat) (x : UInt8) (w : World) (hf : f < 9223372036854775808) (hx : s.data.toList[f / 8]? = some x) :
    Calls Tryd.prog 36 #[.string s, .int .i64 f] w fun e w' => e = .returned (.bool (x.toNat / 2 ^ (f % 8) % 2 = 1)) ∧ w = w' := by
  obtain ⟨q, hq⟩ : ∃ q, Hid (f / 8 = q) := ⟨_, Lib.hid rfl⟩
  obtain ⟨m, hm⟩ : ∃ m, Hid (f % 8 = m) := ⟨_, Lib.hid rfl⟩
  have a1 : (f : Int).tdiv 8 = (q : Int) := by rw [← hq.out]; exact (Int.ofNat_tdiv f 8).symm
  have a2 : (f : Int).tmod 8 = (m : Int) := by rw [← hm.out]; exact (Int.ofNat_tmod f 8).symm
  have a3 : wrap64 (q : Int) = (q : Int) := by have := hq.out; unfold wrap64; omega
  have a4 : wrap64 (m : Int) = (m : Int) := by have := hm.out; unfold wrap64; omega
  have a5 : (m : Int) % 256 = (m : Int) := by have := hm.out; omega
  have a6 : (m : Int) < 8 := by have := hm.out; omega
  have a7 : m < 8 := by have := hm.out; omega
  have hl : q < s.size := by
    have h1 := (List.getElem?_eq_some_iff.1 hx).1
    rw [Array.length_toList] at h1
    have := hq.out
    show q < s.data.size
    omega
  have h02 : ((s.size : Int) != 0) = true := by rw [bne_iff_ne]; omega
  have hl2 : (q : Int) < (s.size : Int) := by omega
  have hbit := nilBit x m
  have hg : ∀ h : q < s.size, s[q]'h = x := by
    intro h
    have h2 : s.data.toList[q]? = some x := by rw [← hq.out]; exact hx
    obtain ⟨h3, h4⟩ := List.getElem?_eq_some_iff.1 h2
    rw [← h4]; rfl
  rw [hm.out]
  clear hx hf
  go_enter Tryd.func36, Tryd.ntmps36
  go_wp2
  go_ret
  exact ⟨rfl, rfl⟩
set_option maxHeartbeats 4000000 in
set_option maxRecDepth 100000 in
theorem rowNil_out (s : ByteArray) (f : Nat) (w : World) (hf : f < 9223372036854775808) (hx : ¬ f / 8 < s.size) :
    Calls Tryd.prog 36 #[.string s, .int .i64 f] w fun e w' => e = .returned (.bool false) ∧ w = w' := by
  obtain ⟨q, hq⟩ : ∃ q, Hid (f / 8 = q) := ⟨_, Lib.hid rfl⟩
  obtain ⟨m, hm⟩ : ∃ m, Hid (f % 8 = m) := ⟨_, Lib.hid rfl⟩
  have a1 : (f : Int).tdiv 8 = (q : Int) := by rw [← hq.out]; exact (Int.ofNat_tdiv f 8).symm
  have a2 : (f : Int).tmod 8 = (m : Int) := by rw [← hm.out]; exact (Int.ofNat_tmod f 8).symm
  have a3 : wrap64 (q : Int) = (q : Int) := by have := hq.out; unfold wrap64; omega
  have a4 : wrap64 (m : Int) = (m : Int) := by have := hm.out; unfold wrap64; omega
  have a5 : (m : Int) % 256 = (m : Int) := by have := hm.out; omega
  have a6 : (m : Int) < 8 := by have := hm.out; omega
  have a7 : m < 8 := by have := hm.out; omega
  have hl2 : ¬ (q : Int) < (s.size : Int) := by have := hq.out; omega
  clear hx hf
  go_enter Tryd.func36, Tryd.ntmps36
  go_wp2
  go_ret
  exact ⟨rfl, rfl⟩
def nilOf (s : ByteArray) (f : Nat) : Bool := match s.data.toList[f / 8]? with | some x => decide (x.toNat / 2 ^ (f % 8) % 2 = 1) | none => false
theorem rowNil_any (s : ByteArray) (f : Nat) (w : World) (hf : f < 9223372036854775808) :
    Calls Tryd.prog 36 #[.string s, .int .i64 f] w fun e w' => e = .returned (.bool (nilOf s f)) ∧ w = w' := by
  unfold nilOf
  split
  · rename_i x hx; exact rowNil_in s f x w hf hx
  · rename_i hx
    refine rowNil_out s f w hf ?_
    rw [List.getElem?_eq_none_iff, Array.length_toList] at hx
    exact Nat.not_lt.2 hx
theorem isNil_any (b c : Nat) (s : ByteArray) (f : Nat) (w : World) (hf : f < 9223372036854775808) (ha : At w ⟨b, 0, none⟩ s.data.toList) :
    Calls Tryd.prog 88 #[.slice (some ⟨b, 0, none⟩) s.size c, .int .i64 f] w fun e w' => e = .returned (.bool (nilOf s f)) ∧ w = w' := by
  unfold nilOf
  split
  · rename_i x hx
    refine isNil_in b c s f x w hf hx ?_
    have := ha.get hx
    rwa [Nat.zero_add] at this
  · rename_i hx
    refine isNil_out b c s f w hf ?_
    rw [List.getElem?_eq_none_iff, Array.length_toList] at hx
    exact Nat.not_lt.2 hx
set_option maxHeartbeats 4000000 in
set_option maxRecDepth 100000 in
theorem implNil_any (s : ByteArray) (f : Nat) (w : World) (hf : f < 9223372036854775808) :
    Calls Tryd.prog 35 #[.string s, .int .i64 f] w fun e w' => e = .returned (.bool (nilOf s f)) ∧ Below w.heap.size w w' := by
  have kc := conv_bytes
  have HF := Lib.hid hf
  clear hf
  go_enter Tryd.func35, Tryd.ntmps35
  go_wp2_with (go_at_call 88; go_loud (refine (isNil_any w.heap.size _ s f (Lib.bytesWorld w 5 s) HF.out (bytes_at w s)).mono ?_; rintro e_ w1 ⟨rfl, rfl⟩))
  go_ret
  exact ⟨rfl, below_bytesWorld _ w _ s (Nat.le_refl _)⟩
set_option maxHeartbeats 4000000 in
set_option maxRecDepth 100000 in
theorem fieldNil_row (pe pl : Addr) (s : ByteArray) (f : Int) (w : World) (hf : (Lit.int .i64 f).wf = true) (he : Env w.heap.size pe pl w) :
    Calls Tryd.prog 14 #[.string s, .int .i64 f] w fun e w' => e = .returned (.bool true) ∧ Below w.heap.size w w' := by
  have HE := Lib.hid he
  by_cases h1 : 2147483647 < s.size
  · have hc : 2147483647 < (s.size : Int) := by omega
    clear he hf h1
    go_enter Tryd.func14, Tryd.ntmps14
    go_wp2
    go_ret
    exact ⟨rfl, Below.refl _ w⟩
  · have hc : ¬ 2147483647 < (s.size : Int) := by omega
    by_cases h2 : 100 < s.size
    · have hc2 : 100 < (s.size : Int) := by omega
      clear he hf h1 h2
      go_enter Tryd.func14, Tryd.ntmps14
      go_wp2_with (go_at_call 21; go_loud (refine (awake_any w.heap.size pe pl w HE.out (Nat.le_refl _)).mono ?_; rintro e_ w1 ⟨rfl, hb1⟩; have HB1 := Lib.hid hb1; clear hb1))
      go_ret
      exact ⟨rfl, HB1.out⟩
    · have hc2 : ¬ 100 < (s.size : Int) := by omega
      by_cases h3 : f < 0
      · clear he hf h1 h2
        go_enter Tryd.func14, Tryd.ntmps14
        go_wp2_with (go_at_call 21; go_loud (refine (awake_any w.heap.size pe pl w HE.out (Nat.le_refl _)).mono ?_; rintro e_ w1 ⟨rfl, hb1⟩; have HB1 := Lib.hid hb1; clear hb1))
        go_ret
        exact ⟨rfl, HB1.out⟩
      · obtain ⟨k, rfl⟩ := Int.eq_ofNat_of_zero_le (show 0 ≤ f by omega)
        have HF := Lib.hid (show k < 9223372036854775808 by have := i64_bd hf; omega)
        clear he hf h1 h2 h3
        go_enter Tryd.func14, Tryd.ntmps14
        go_wp2_with (first
          | (go_at_call 35; go_loud (refine (implNil_any s k w1 HF.out).mono ?_; rintro e_ w2 ⟨rfl, hb2⟩; have HB2 := Lib.hid (HB1.out.trans (hb2.mono HB1.out.size)); clear hb2))
          | (go_at_call 36; go_loud (refine (rowNil_any s k w2 HF.out).mono ?_; rintro e_ w3 ⟨rfl, rfl⟩))
          | (go_at_call 21; go_loud (refine (awake_any w.heap.size pe pl w HE.out (Nat.le_refl _)).mono ?_; rintro e_ w1 ⟨rfl, hb1⟩; have HB1 := Lib.hid hb1; clear hb1)))
        go_ret
        exact ⟨rfl, HB2.out⟩
end Go.Proofs.YtgdbeiadlgkedaaDoor

/- The walk of the statement on reads of n bytes. -/
namespace Go.Proofs.YtgdbeiadlgkedaaDoor
open Go.RowKit
open Go.Joins (below_bytesWorld)
set_option linter.unusedVariables false
set_option linter.unusedSimpArgs false

def mkz (n : Nat) : Obj := .cells (madeCells #[.int .u8 0] (n * 1)) 5
theorem mk_bytes (n : Nat) (hn : n ≤ 1000000) : ∀ W : World, (Instr.makeSlice 29 (.int .i64 (n : Int)) (.int .i64 (n : Int))).run Tryd.prog W = .ok (.slice (some ⟨W.heap.size, 0, none⟩) n n) (W.alloc (mkz n)) := by
  intro W
  have hm : (Tryd.prog.info? 5).map (fun i => (i.zero, i.size, i.bytes)) = some (some (.int .u8 0), 1, 1) := by kernel_rfl
  obtain ⟨i, hi, he⟩ := Option.map_eq_some_iff.1 hm
  simp only [Prod.mk.injEq] at he
  obtain ⟨hz, hs, hb⟩ := he
  have h := run_makeSlice (P := Tryd.prog) W 29 5 i _ Tryd.underlying29 hi hz .i64 .i64 (n : Int) (n : Int) (by omega) (Int.le_refl _) (by rw [hs]; simp; omega) (by rw [hb]; simp; omega) (by omega)
  rw [hs, show (Value.int .u8 0).cells = #[.int .u8 0] from rfl] at h
  simpa [mkz] using h
theorem mkz_size (n : Nat) : (madeCells #[.int .u8 0] (n * 1)).size = n := by rw [size_madeCells, Nat.mul_one]
set_option maxHeartbeats 4000000 in
set_option maxRecDepth 100000 in
/-- ReadN where there are enough bytes. -/
theorem readN_some (r g : Nat) (l : List UInt8) (n : Nat) (w : World) (h : Rd r g l 0 w) (hn0 : 0 < n) (hn : n ≤ l.length) (hn2 : n ≤ 1000000) :
    Calls Tryd.prog 87 #[rdI r, .int .i64 n] w fun e w' => e = .returned (.tuple #[.slice (some ⟨w.heap.size, 0, none⟩) n n, .nilIface]) ∧ At w' ⟨w.heap.size, 0, none⟩ (l.take n) ∧ w.grownBy w' (some r) := by
  have na := na_read (some ⟨r, 0, none⟩)
  have km := mk_bytes n hn2
  have hne := h.ge (mkz n)
  have H := Lib.hid (h.alloc (mkz n))
  have HD := Lib.hid (heap_alloc_new w (mkz n))
  have HN := Lib.hid (And.intro hn0 (And.intro hn hn2))
  have HZ := Lib.hid (mkz_size n)
  have hw : wrap64 (n : Int) = (n : Int) := IntWalk.wrap64_in _ (by omega)
  have hz : ¬ n = 0 := by omega
  have HNE := Lib.hid hne
  clear h hn0 hn hn2 hne
  go_enter Tryd.func87, Tryd.ntmps87
  go_wp2
  refine wp_loop_rounds 1 ?_; rw [rounds_succ]
  go_wp2
  go_region_with (go_at_call 127; go_loud (refine (read_some r g l 0 w.heap.size 0 n n n (madeCells #[.int .u8 0] (n * 1)) 5 _ ?_ (by have := HN.out; omega) ?_ HNE.out.1 HNE.out.2 (by have := HN.out; omega) (by rw [HZ.out]; omega)).mono ?_; exact H.out.drewN 1; exact HD.out; rintro e_ w1 ⟨rfl, h1, h2, h3⟩; have H1 := Lib.hid (And.intro h1 (And.intro h2 h3)); clear h1 h2 h3))
  go_wp2
  go_ret2
  obtain ⟨a1, a2, a3⟩ := H1.out
  refine ⟨rfl, ?_, ?_⟩
  · refine At.mk fun j x hj => (blk_cell a2 j).trans (laidAt_get ?_)
    simpa using hj
  · exact Two.grown (grown_alloc (grown_refl (r := r) w) _) (((Two.refl r w.heap.size _).drewN 1).trans a3) (Nat.le_refl _)
set_option maxHeartbeats 4000000 in
set_option maxRecDepth 100000 in
/-- ReadN of no byte, where there are some. -/
theorem readN_zero (r g : Nat) (l : List UInt8) (w : World) (h : Rd r g l 0 w) (hl : 0 < l.length) :
    Calls Tryd.prog 87 #[rdI r, .int .i64 0] w fun e w' => e = .returned (.tuple #[.slice (some ⟨w.heap.size, 0, none⟩) 0 0, .nilIface]) ∧ w.grownBy w' (some r) := by
  have na := na_read (some ⟨r, 0, none⟩)
  have km : ∀ W : World, (Instr.makeSlice 29 (.int .i64 0) (.int .i64 0)).run Tryd.prog W = .ok (.slice (some ⟨W.heap.size, 0, none⟩) 0 0) (W.alloc (mkz 0)) := fun W => mk_bytes 0 (by omega) W
  have hne := h.ge (mkz 0)
  have H := Lib.hid (h.alloc (mkz 0))
  have HD := Lib.hid (heap_alloc_new w (mkz 0))
  have HN := Lib.hid hl
  have HNE := Lib.hid hne
  clear h hl hne
  go_enter Tryd.func87, Tryd.ntmps87
  go_wp2
  refine wp_loop_rounds 1 ?_; rw [rounds_succ]
  go_wp2
  go_region_with (go_at_call 127; go_loud (refine (read_some r g l 0 w.heap.size 0 0 0 0 (madeCells #[.int .u8 0] (0 * 1)) 5 _ ?_ (by have := HN.out; omega) ?_ HNE.out.1 HNE.out.2 (by omega) (by omega)).mono ?_; exact H.out.drewN 1; exact HD.out; rintro e_ w1 ⟨rfl, h1, h2, h3⟩; have H1 := Lib.hid (And.intro h1 (And.intro h2 h3)); clear h1 h2 h3))
  go_wp2
  go_ret2
  obtain ⟨a1, a2, a3⟩ := H1.out
  exact ⟨rfl, Two.grown (grown_alloc (grown_refl (r := r) w) _) (((Two.refl r w.heap.size _).drewN 1).trans a3) (Nat.le_refl _)⟩
set_option maxHeartbeats 4000000 in
set_option maxRecDepth 100000 in
/-- ReadN of no byte at the end. -/
theorem readN_zero0 (r g : Nat) (l : List UInt8) (ev : Value) (w : World) (h : Rd r g l l.length w) (he : w.cell? ⟨0, 0, none⟩ = some ev) :
    Calls Tryd.prog 87 #[rdI r, .int .i64 0] w fun e w' => e = .returned (.tuple #[.slice (some ⟨w.heap.size, 0, none⟩) 0 0, .nilIface]) ∧ w.grownBy w' (some r) := by
  have na := na_read (some ⟨r, 0, none⟩)
  have km : ∀ W : World, (Instr.makeSlice 29 (.int .i64 0) (.int .i64 0)).run Tryd.prog W = .ok (.slice (some ⟨W.heap.size, 0, none⟩) 0 0) (W.alloc (mkz 0)) := fun W => mk_bytes 0 (by omega) W
  have H := Lib.hid (h.alloc (mkz 0))
  have HE := Lib.hid (show (w.alloc (mkz 0)).cell? ⟨0, 0, none⟩ = some ev from (World.cell?_of_block (a := ⟨0, 0, none⟩) (Below.heap_alloc w (mkz 0) _ (World.block_lt_of_cell? w _ he))).trans he)
  clear h he
  go_enter Tryd.func87, Tryd.ntmps87
  go_wp2
  refine wp_loop_rounds 1 ?_; rw [rounds_succ]
  go_wp2
  go_region_with (go_at_call 127; refine (read_end r g l _ _ _ ev _ ?_ ?_).mono ?_; exact H.out.drewN 1; exact HE.out; rintro e_ w1 ⟨rfl, q1, hq⟩; have HQ := Lib.hid hq; clear hq)
  go_wp2
  go_ret2
  exact ⟨rfl, by rw [HQ.out]; exact grown_drewN (grown_drewN (grown_alloc (grown_refl (r := r) w) _) 1) q1⟩
set_option maxHeartbeats 4000000 in
set_option maxRecDepth 100000 in
/-- ReadN at the end, for some bytes. -/
theorem readN_eof (r g : Nat) (l : List UInt8) (n : Nat) (te : TypeId) (pe : Value) (w : World) (h : Rd r g l l.length w) (he : w.cell? ⟨0, 0, none⟩ = some (.iface te pe)) (hn : 0 < n) (hn2 : n ≤ 1000000) :
    Calls Tryd.prog 87 #[rdI r, .int .i64 n] w fun e w' => e = .returned (.tuple #[.slice none 0 0, .iface te pe]) ∧ w.grownBy w' (some r) := by
  have na := na_read (some ⟨r, 0, none⟩)
  have km := mk_bytes n hn2
  have H := Lib.hid (h.alloc (mkz n))
  have HE := Lib.hid (show (w.alloc (mkz n)).cell? ⟨0, 0, none⟩ = some (.iface te pe) from (World.cell?_of_block (a := ⟨0, 0, none⟩) (Below.heap_alloc w (mkz n) _ (World.block_lt_of_cell? w _ he))).trans he)
  have hz : ¬ n = 0 := by omega
  have hw0 : ((0 : Int) == (n : Int)) = false := beq_eq_false_iff_ne.mpr (by omega)
  clear h he
  go_enter Tryd.func87, Tryd.ntmps87
  go_wp2
  refine wp_loop_rounds 1 ?_; rw [rounds_succ]
  go_wp2
  go_region_with (go_at_call 127; refine (read_end r g l _ _ _ (.iface te pe) _ ?_ ?_).mono ?_; exact H.out.drewN 1; exact HE.out; rintro e_ w1 ⟨rfl, q1, hq⟩; have HQ := Lib.hid hq; clear hq)
  go_wp2
  go_ret2
  exact ⟨rfl, by rw [HQ.out]; exact grown_drewN (grown_drewN (grown_alloc (grown_refl (r := r) w) _) 1) q1⟩
set_option maxHeartbeats 4000000 in
set_option maxRecDepth 100000 in
/-- ReadN where there are some bytes, but too few. -/
theorem readN_few (r g : Nat) (l : List UInt8) (n : Nat) (te : TypeId) (pe : Value) (w : World) (h : Rd r g l 0 w) (hi : 0 < l.length) (hn : l.length < n) (he : w.cell? ⟨0, 0, none⟩ = some (.iface te pe)) (her : 0 ≠ r) (hn2 : n ≤ 1000000) :
    Calls Tryd.prog 87 #[rdI r, .int .i64 n] w fun e w' => e = .returned (.tuple #[.slice none 0 0, .iface te pe]) ∧ w.grownBy w' (some r) := by
  have na := na_read (some ⟨r, 0, none⟩)
  have km := mk_bytes n hn2
  obtain ⟨m, hm⟩ : ∃ m, m = l.length := ⟨_, rfl⟩
  have hne := h.ge (mkz n)
  have hlt := World.block_lt_of_cell? w _ he
  have H := Lib.hid (h.alloc (mkz n))
  have HD := Lib.hid (heap_alloc_new w (mkz n))
  have HE := Lib.hid (show (w.alloc (mkz n)).cell? ⟨0, 0, none⟩ = some (.iface te pe) from (World.cell?_of_block (a := ⟨0, 0, none⟩) (Below.heap_alloc w (mkz n) _ hlt)).trans he)
  have HED := Lib.hid (show 0 ≠ w.heap.size from Nat.ne_of_lt hlt)
  have HL := Lib.hid h.len
  have HI := Lib.hid hi
  have HN := Lib.hid hn
  have HZ := Lib.hid (mkz_size n)
  have hz : ¬ n = 0 := by omega
  have hz2 : ¬ n = m := by omega
  have hz3 : (m : Int) ≤ (n : Int) := by omega
  have hz4 : m ≤ n := by omega
  have hw : wrap64 (m : Int) = (m : Int) := IntWalk.wrap64_in _ (by have := HL.out; omega)
  have q1 : ((m : Int) == (n : Int)) = false := beq_eq_false_iff_ne.mpr (by omega)
  have q2 : ((m : Int) == 0) = false := beq_eq_false_iff_ne.mpr (by omega)
  have HM := Lib.hid hm
  have HNE := Lib.hid hne
  have HER := Lib.hid her
  clear h he hi hn hm her hn2 hne hlt
  go_enter Tryd.func87, Tryd.ntmps87
  go_wp2
  refine wp_loop_rounds 2 ?_; rw [rounds_succ]
  go_wp2
  go_region_with (go_at_call 127; go_loud (refine (read_some r g l 0 w.heap.size 0 n n m (madeCells #[.int .u8 0] (n * 1)) 5 _ ?_ HI.out ?_ HNE.out.1 HNE.out.2 (by have := HM.out; have := HN.out; omega) (by rw [HZ.out]; omega)).mono ?_; exact H.out.drewN 1; exact HD.out; rintro e_ w1 ⟨rfl, h1, h2, h3⟩; have H1 := Lib.hid (And.intro h1 (And.intro h2 h3)); clear h1 h2 h3))
  go_wp2
  rw [rounds_succ]
  go_wp2
  have hil : 0 + m = l.length := by have := HM.out; omega
  have R1 := Lib.hid (hil ▸ H1.out.1)
  have E1 : w1.cell? ⟨0, 0, none⟩ = some (.iface te pe) := (World.cell?_of_block (a := ⟨0, 0, none⟩) (H1.out.2.2.block _ (World.block_lt_of_cell? _ _ HE.out) HER.out HED.out)).trans HE.out
  have HE1 := Lib.hid E1
  clear E1 hil
  go_region_with (go_at_call 127; refine (read_end r g l _ _ _ (.iface te pe) _ ?_ ?_).mono ?_; exact R1.out.drewN 1; exact HE1.out; rintro e_ w2 ⟨rfl, q3, hq⟩; have HQ := Lib.hid hq; clear hq)
  go_wp2
  go_ret2
  refine ⟨rfl, ?_⟩
  rw [HQ.out]
  exact grown_drewN (grown_drewN (Two.grown (grown_alloc (grown_refl (r := r) w) _) (((Two.refl r w.heap.size _).drewN 1).trans H1.out.2.2) (Nat.le_refl _)) 1) q3
end Go.Proofs.YtgdbeiadlgkedaaDoor

/- The walk of the statement on reads of n bytes: the door and the law. -/
namespace Go.Proofs.YtgdbeiadlgkedaaDoor
open Go.RowKit
open Go.Joins (below_bytesWorld)
set_option linter.unusedVariables false
set_option linter.unusedSimpArgs false

theorem conv_back (W : World) (d n : Nat) (l : List UInt8) (h : At W ⟨d, 0, none⟩ l) (hl : l.length = n) :
    (convert 29 9 (.slice (some ⟨d, 0, none⟩) n n)).run Tryd.prog W.drew = .ok (.string ⟨l.toArray⟩) W.drew := by
  subst hl
  exact run_convert_bytes_back (P := Tryd.prog) W.drew 29 9 5 ⟨d, 0, none⟩ l.length l Tryd.underlying29 Tryd.underlying5 Tryd.underlying9 (fun j hj => by
    rw [Lib.addr_add]
    exact h.get (List.getElem?_eq_getElem hj))
theorem rn_start {w w1 : World} {B r : Nat} {pe pl : Addr} (hB : B ≤ w.heap.size) (he : Env B pe pl w) (hw : Below w.heap.size w w1) (hr : w.heap.size < r) : Env B pe pl w1 ∧ B ≤ r ∧ B ≤ w1.heap.size :=
  ⟨he.below (hw.mono hB), by omega, by have := hw.size; omega⟩
set_option maxHeartbeats 4000000 in
set_option maxRecDepth 100000 in
theorem implReadN_some (s : ByteArray) (n : Nat) (w : World) (hs : s.size ≤ 4294967296) (hn0 : 0 < n) (hn : n ≤ s.size) (hn2 : n ≤ 1000000) :
    Calls Tryd.prog 34 #[.string s, .int .i64 n] w fun e w' => e = .returned (.tuple #[.string (s.extract 0 n), .string ⟨#[]⟩]) ∧ Below w.heap.size w w' := by
  have kc := conv_bytes
  have HS := Lib.hid (And.intro hs (And.intro hn0 (And.intro hn hn2)))
  have HL := Lib.hid (show s.data.toList.length = s.size by rw [Array.length_toList]; rfl)
  have HX := Lib.hid (show (⟨(s.data.toList.take n).toArray⟩ : ByteArray) = s.extract 0 n by apply Eq.symm; apply str_ext; rw [Lib.extract_data, List.drop_zero, Nat.sub_zero])
  clear hs hn0 hn hn2
  go_enter Tryd.func34, Tryd.ntmps34
  go_wp2_with (first
    | (go_at_call 45; go_loud (refine (newRd_any w w.heap.size rfl s HS.out.1).mono ?_; rintro e_ w1 ⟨r, rfl, hr1, hr2, hr3⟩; have HR := Lib.hid (And.intro hr1 (And.intro hr2 hr3)); clear hr1 hr2 hr3))
    | (go_at_call 87; go_loud (refine (readN_some r w.heap.size s.data.toList n w1 HR.out.1 HS.out.2.1 (by rw [HL.out]; exact HS.out.2.2.1) HS.out.2.2.2).mono ?_; rintro e_ w2 ⟨rfl, h1, h2⟩; have kb := conv_back w2 w1.heap.size n _ h1 (by rw [List.length_take, HL.out]; exact Nat.min_eq_left HS.out.2.2.1); rw [HX.out] at kb; have HB := Lib.hid (HR.out.2.1.trans (grown_below h2 HR.out.2.1.size (Nat.le_of_lt HR.out.2.2))); clear h1 h2)))
  go_region_with (go_at_call 63; refine (word_nil _).mono ?_; rintro e_ w5 ⟨rfl, rfl⟩)
  all_goals
    go_wp2
    go_ret2
    exact ⟨rfl, HB.out.drew⟩
theorem conv_none : ∀ (W : World), (convert 29 9 (.slice none 0 0)).run Tryd.prog W = .ok (.string ⟨#[]⟩) W := fun W => by kernel_rfl
theorem conv_zero (W : World) (d : Nat) :
    (convert 29 9 (.slice (some ⟨d, 0, none⟩) 0 0)).run Tryd.prog W.drew = .ok (.string ⟨#[]⟩) W.drew := conv_back W d 0 [] (At.mk fun j x hj => by simp at hj) rfl
set_option maxHeartbeats 4000000 in
set_option maxRecDepth 100000 in
theorem implReadN_zero (s : ByteArray) (B : Nat) (pe pl : Addr) (w : World) (hs : s.size ≤ 4294967296) (hB : B ≤ w.heap.size) (he : Env B pe pl w) :
    Calls Tryd.prog 34 #[.string s, .int .i64 0] w fun e w' => e = .returned (.tuple #[.string ⟨#[]⟩, .string ⟨#[]⟩]) ∧ Below w.heap.size w w' := by
  have kc := conv_bytes
  have kz := conv_zero
  have HS := Lib.hid (And.intro hs (And.intro hB he))
  clear hs hB he
  have HC : Hid (∀ (r : Nat) (w1 : World), Rd r w.heap.size s.data.toList 0 w1 → Env B pe pl w1 → Calls Tryd.prog 87 #[rdI r, .int .i64 0] w1 fun e w' => e = .returned (.tuple #[.slice (some ⟨w1.heap.size, 0, none⟩) 0 0, .nilIface]) ∧ w1.grownBy w' (some r)) := Lib.hid (fun r w1 h1 h2 => by
    by_cases h0 : s.data.toList.length = 0
    · exact readN_zero0 r w.heap.size s.data.toList _ w1 (by rw [h0]; exact h1) h2.eof
    · exact readN_zero r w.heap.size s.data.toList w1 h1 (by omega))
  go_enter Tryd.func34, Tryd.ntmps34
  go_wp2_with (first
    | (go_at_call 45; go_loud (refine (newRd_any w w.heap.size rfl s HS.out.1).mono ?_; rintro e_ w1 ⟨r, rfl, hr1, hr2, hr3⟩; have HR := Lib.hid (And.intro hr1 (And.intro hr2 hr3)); clear hr1 hr2 hr3))
    | (go_at_call 87; go_loud (refine (HC.out r w1 HR.out.1 (rn_start HS.out.2.1 HS.out.2.2 HR.out.2.1 HR.out.2.2).1).mono ?_; rintro e_ w2 ⟨rfl, h2⟩; have HB := Lib.hid (HR.out.2.1.trans (grown_below h2 HR.out.2.1.size (Nat.le_of_lt HR.out.2.2))); clear h2)))
  go_region_with (go_at_call 63; refine (word_nil _).mono ?_; rintro e_ w5 ⟨rfl, rfl⟩)
  all_goals
    go_wp2
    go_ret2
    exact ⟨rfl, HB.out.drew⟩
set_option maxHeartbeats 4000000 in
set_option maxRecDepth 100000 in
theorem implReadN_bad (s : ByteArray) (n : Nat) (B : Nat) (pe pl : Addr) (w : World) (hs : s.size ≤ 4294967296) (hB : B ≤ w.heap.size) (he : Env B pe pl w) (hn : s.size < n) (hn2 : n ≤ 1000000) :
    Calls Tryd.prog 34 #[.string s, .int .i64 n] w fun e w' => ∃ es : ByteArray, e = .returned (.tuple #[.string ⟨#[]⟩, .string es]) ∧ es.data.toList ≠ [] ∧ Below w.heap.size w w' := by
  have kc := conv_bytes
  have kz := conv_none
  have HS := Lib.hid (And.intro hs (And.intro hB he))
  have HN := Lib.hid (And.intro hn hn2)
  have HL := Lib.hid (show s.data.toList.length = s.size by rw [Array.length_toList]; rfl)
  clear hs hB he hn hn2
  have HC : Hid (∀ (r : Nat) (w1 : World), Rd r w.heap.size s.data.toList 0 w1 → w.heap.size < r → Env B pe pl w1 → Calls Tryd.prog 87 #[rdI r, .int .i64 n] w1 fun e w' => e = .returned (.tuple #[.slice none 0 0, errV pe]) ∧ w1.grownBy w' (some r)) := Lib.hid (fun r w1 h1 hr h2 => by
    by_cases h0 : s.data.toList.length = 0
    · exact readN_eof r w.heap.size s.data.toList n _ _ w1 (by rw [h0]; exact h1) h2.eof (by have := HN.out; omega) HN.out.2
    · exact readN_few r w.heap.size s.data.toList n _ _ w1 h1 (by omega) (by rw [HL.out]; exact HN.out.1) h2.eof (by have := h2.b0; have := HS.out.2.1; omega) HN.out.2)
  go_enter Tryd.func34, Tryd.ntmps34
  go_wp2_with (first
    | (go_at_call 45; go_loud (refine (newRd_any w w.heap.size rfl s HS.out.1).mono ?_; rintro e_ w1 ⟨r, rfl, hr1, hr2, hr3⟩; have HR := Lib.hid (And.intro hr1 (And.intro hr2 hr3)); clear hr1 hr2 hr3))
    | (go_at_call 87; go_loud (refine (HC.out r w1 HR.out.1 HR.out.2.2 (rn_start HS.out.2.1 HS.out.2.2 HR.out.2.1 HR.out.2.2).1).mono ?_; rintro e_ w2 ⟨rfl, h2⟩; have HB0 := Lib.hid (HR.out.2.1.trans (grown_below h2 HR.out.2.1.size (Nat.le_of_lt HR.out.2.2))); clear h2)))
  obtain ⟨es, hes, hne⟩ := (HS.out.2.2.below (HB0.out.mono HS.out.2.1)).te
  have HES := Lib.hid (And.intro hes hne)
  clear hes hne
  go_region_with (go_at_call 63; refine (word_err pe es _ ?wd).mono ?_; (case wd => exact HES.out.1); rintro e_ w5 ⟨rfl, rfl⟩)
  all_goals
    go_wp2
    go_ret2
    exact ⟨es, rfl, HES.out.2, HB0.out.drew⟩
set_option maxHeartbeats 4000000 in
set_option maxRecDepth 100000 in
theorem readN_row (pe pl : Addr) (s : ByteArray) (f : Int) (w : World) (hf : (Lit.int .i64 f).wf = true) (he : Env w.heap.size pe pl w) :
    Calls Tryd.prog 13 #[.string s, .int .i64 f] w fun e w' => e = .returned (.bool true) ∧ Below w.heap.size w w' := by
  have HE := Lib.hid he
  by_cases h1 : 2147483647 < s.size
  · have hc : 2147483647 < (s.size : Int) := by omega
    clear he hf h1
    go_enter Tryd.func13, Tryd.ntmps13
    go_wp2
    go_ret
    exact ⟨rfl, Below.refl _ w⟩
  · have hc : ¬ 2147483647 < (s.size : Int) := by omega
    have HA := Lib.hid (awake_any w.heap.size pe pl w he (Nat.le_refl _))
    by_cases h2 : 400 < s.size
    · have hc2 : 400 < (s.size : Int) := by omega
      clear he hf h1 h2
      go_enter Tryd.func13, Tryd.ntmps13
      go_wp2_with (go_at_call 21; go_loud (refine HA.out.mono ?_; rintro e_ w1 ⟨rfl, hb1⟩; have HB1 := Lib.hid hb1; clear hb1))
      go_ret
      exact ⟨rfl, HB1.out⟩
    · have hc2 : ¬ 400 < (s.size : Int) := by omega
      by_cases h3 : f < 0
      · clear he hf h1 h2
        go_enter Tryd.func13, Tryd.ntmps13
        go_wp2_with (go_at_call 21; go_loud (refine HA.out.mono ?_; rintro e_ w1 ⟨rfl, hb1⟩; have HB1 := Lib.hid hb1; clear hb1))
        go_ret
        exact ⟨rfl, HB1.out⟩
      · by_cases h4 : 1000000 < f
        · clear he hf h1 h2
          go_enter Tryd.func13, Tryd.ntmps13
          go_wp2_with (go_at_call 21; go_loud (refine HA.out.mono ?_; rintro e_ w1 ⟨rfl, hb1⟩; have HB1 := Lib.hid hb1; clear hb1))
          go_ret
          exact ⟨rfl, HB1.out⟩
        · obtain ⟨k, rfl⟩ := Int.eq_ofNat_of_zero_le (show 0 ≤ f by omega)
          have HF := Lib.hid (show s.size ≤ 4294967296 ∧ k ≤ 1000000 by omega)
          have h4' : ¬ 1000000 < (k : Int) := h4
          by_cases h5 : s.size < k
          · have hc5 : (s.size : Int) < (k : Int) := by omega
            have H5 := Lib.hid h5
            clear he hf h1 h2 h3 h4 h5
            go_enter Tryd.func13, Tryd.ntmps13
            go_wp2_with (first
              | (go_at_call 34; go_loud (refine (implReadN_bad s k w.heap.size pe pl w HF.out.1 (Nat.le_refl _) HE.out H5.out HF.out.2).mono ?_; rintro e_ w1 ⟨es, rfl, hes, hb1⟩; have hne1 := ne_empty hes; have HB1 := Lib.hid hb1; clear hb1 hes))
              | (go_at_call 21; go_loud (refine (awake_any w.heap.size pe pl w1 (HE.out.below HB1.out) HB1.out.size).mono ?_; rintro e_ w2 ⟨rfl, hb2⟩; have HB2 := Lib.hid (HB1.out.trans (hb2.mono HB1.out.size)); clear hb2)))
            go_ret
            exact ⟨rfl, HB2.out⟩
          · have hc5 : ¬ (s.size : Int) < (k : Int) := by omega
            have hc6 : (k : Int) ≤ (s.size : Int) := by omega
            have hc7 : k ≤ s.size := by omega
            have HC : Hid (Calls Tryd.prog 34 #[.string s, .int .i64 k] w fun e w' => e = .returned (.tuple #[.string (s.extract 0 k), .string ⟨#[]⟩]) ∧ Below w.heap.size w w') := Lib.hid (by
              by_cases h0 : k = 0
              · subst h0
                have e0 : s.extract 0 0 = ⟨#[]⟩ := by apply str_ext; rw [Lib.extract_data]; simp
                rw [e0]
                exact implReadN_zero s w.heap.size pe pl w HF.out.1 (Nat.le_refl _) HE.out
              · exact implReadN_some s k w HF.out.1 (by omega) hc7 HF.out.2)
            clear he hf h1 h2 h3 h4 h5
            go_enter Tryd.func13, Tryd.ntmps13
            go_wp2_with (first
              | (go_at_call 34; go_loud (refine HC.out.mono ?_; rintro e_ w1 ⟨rfl, hb1⟩; have HB1 := Lib.hid hb1; clear hb1))
              | (go_at_call 21; go_loud (refine (awake_any w.heap.size pe pl w1 (HE.out.below HB1.out) HB1.out.size).mono ?_; rintro e_ w2 ⟨rfl, hb2⟩; have HB2 := Lib.hid (HB1.out.trans (hb2.mono HB1.out.size)); clear hb2)))
            go_ret
            exact ⟨rfl, HB2.out⟩
end Go.Proofs.YtgdbeiadlgkedaaDoor

/- Contracts: a row's simple header, written and read. -/
namespace Go.Proofs.YtgdbeiadlgkedaaDoor
open Go.RowKit
open Go.Joins (below_bytesWorld)
set_option linter.unusedVariables false
set_option linter.unusedSimpArgs false

def shead (n : Nat) : List UInt8 := Lib.uvarint n ++ Lib.uvarint 0
theorem u64of_small (n : Nat) (h : n ≤ 1000000) : u64of (n : Int) = n := by unfold u64of; omega
set_option maxHeartbeats 4000000 in
set_option maxRecDepth 100000 in
theorem wsh_any (B b n : Nat) (w : World) (h : Bf B b [] w) (hn : n ≤ 1000000) :
    Calls Tryd.prog 91 #[.int .i64 n, bfI b] w fun e w' => e = .returned .nilIface ∧ Bf B b (shead n) w' ∧ Below B w w' := by
  have HC := Lib.hid (encVarI_any B b (n : Int) [] w h (by decide))
  rw [u64of_small n hn, List.nil_append] at HC
  have HN := Lib.hid (Lib.uvarint_length64 (x := n) (by omega))
  clear h hn
  go_enter Tryd.func91, Tryd.ntmps91
  go_wp2_with (go_at_call 82; (first
    | ((with_reducible refine HC.out.mono ?_); rintro e_ w1 ⟨rfl, h1, h2, _⟩; have H1 := Lib.hid h1; have H2 := Lib.hid h2; clear h1 h2)
    | ((with_reducible refine (encVarI_any B b 0 _ w1 H1.out (by have := HN.out; omega)).mono ?_); rintro e_ w2 ⟨rfl, h1, h2, _⟩; have H3 := Lib.hid h1; have H4 := Lib.hid (H2.out.trans h2); clear h1 h2)))
  go_ret
  exact ⟨rfl, H3.out, H4.out⟩
theorem enc_below1 {w w2 w3 : World} {o : Obj} {n : Nat} (h : Below w.heap.size (w.alloc o) w2) (h3 : w3 = w2.drewN n) : Below w.heap.size w w3 := by
  subst h3
  have h0 : Below w.heap.size w (w.alloc o) := (Below.refl _ w).alloc (Nat.le_refl _) _
  have h1 := h0.trans h
  exact ⟨h1.os, h1.tape, h1.output, h1.size, h1.block⟩
set_option maxHeartbeats 4000000 in
set_option maxRecDepth 100000 in
theorem simpleHeader_any (n : Nat) (w : World) (hn : n ≤ 1000000) :
    Calls Tryd.prog 41 #[.int .i64 n] w fun e w' => e = .returned (.tuple #[.string ⟨(shead n).toArray⟩, .string ⟨#[]⟩]) ∧ Below w.heap.size w w' := by
  have HC := Lib.hid (wsh_any _ _ n _ (fresh_Bf w) hn)
  clear hn
  go_enter Tryd.func41, Tryd.ntmps41
  go_wp2_with (first
    | (go_at_call 91; go_loud (refine HC.out.mono ?_; rintro e_ w1 ⟨rfl, h1, h2⟩; have H1 := Lib.hid h1; have H2 := Lib.hid h2; clear h1 h2))
    | (go_at_call 84; refine (string_any _ _ _ _ H1.out).mono ?_; rintro e_ w2 ⟨rfl, q2, hq⟩; have HQ := Lib.hid (enc_below1 H2.out hq); clear hq)
    | (go_at_call 63; refine (word_nil _).mono ?_; rintro e_ w3 ⟨rfl, rfl⟩))
  go_ret2
  exact ⟨rfl, HQ.out⟩
/-- What a simple header's reader answers. -/
def rsh (n : Int) (l : List UInt8) : Option Nat :=
  match vrd 0 0 l with
  | none => none
  | some (v, k) => if wrap64 (v : Nat) = n then (match vrd 0 0 (l.drop k) with
    | none => none
    | some (v2, k2) => if wrap64 (v2 : Nat) = 0 then some (k + k2) else none) else none
theorem err_new {r g i : Nat} {l : List UInt8} {w w1 : World} (s : ByteArray) (hs : s.data.toList ≠ []) (hg : w.grownBy w1 (some r)) (hr : Rd r g l i w1) :
    Fell r g l w (w1.alloc (.cells #[.string s] 184)) (.iface 182 (.pointer (some ⟨w1.heap.size, 0, none⟩))) :=
  ⟨grown_alloc hg _, ⟨_, s, rfl, (blk_cell (heap_alloc_new w1 _) 0).trans rfl, hs⟩, i, hr.alloc _⟩
set_option maxHeartbeats 4000000 in
set_option maxRecDepth 100000 in
theorem readSimple_any (B : Nat) (pe pl : Addr) (r g : Nat) (n : Int) (l : List UInt8) (w : World) (h : Rd r g l 0 w) (he : Env B pe pl w) (hBr : B ≤ r) (hB : B ≤ w.heap.size) (R : Option Nat) (hR : rsh n l = R) :
    Calls Tryd.prog 89 #[.int .i64 n, rdI r] w fun e w' => (∃ k, R = some k ∧ e = .returned .nilIface ∧ w.grownBy w' (some r) ∧ Rd r g l k w') ∨ (R = none ∧ ∃ ev, e = .returned ev ∧ Fell r g l w w' ev) := by
  have HE := Lib.hid (And.intro he (And.intro hBr hB))
  unfold rsh at hR
  cases hv : vrd 0 0 l with
  | none =>
    simp only [hv] at hR
    have HC := Lib.hid (decVarI_bad B pe pl r g l 0 w h he hBr (by rw [List.drop_zero]; exact hv))
    have HR := Lib.hid hR
    clear hR h he hBr hB hv
    go_enter Tryd.func89, Tryd.ntmps89
    go_wp2_with (first
      | (go_at_call 60; go_loud (refine HC.out.mono ?_; rintro e_ w1 ⟨ev, rfl, h1⟩; obtain ⟨a, s, rfl, h2⟩ : ∃ a s, ev = errV a ∧ Hid (w1.cell? a = some (.string s) ∧ s.data.toList ≠ []) := (by obtain ⟨a, s, e1, e2, e3⟩ := h1.2.1; exact ⟨a, s, e1, Lib.hid ⟨e2, e3⟩⟩); have H1 := Lib.hid h1; clear h1))
      | (go_at_call 95; go_loud (refine (errNew_any _ _).mono ?_; rintro e_ w2 ⟨rfl, rfl⟩)))
    go_ret
    obtain ⟨hg, _, i', hrd⟩ := H1.out
    exact .inr ⟨HR.out.symm, _, rfl, err_new _ (by simp) hg hrd⟩
  | some p =>
    obtain ⟨v, k⟩ := p
    simp only [hv] at hR
    have HC := Lib.hid (decVarI_ok B pe pl r g l 0 v k w h he hBr (by rw [List.drop_zero]; exact hv))
    rw [Nat.zero_add] at HC
    by_cases hvn : wrap64 (v : Int) = n
    · rw [if_pos hvn] at hR
      cases hv2 : vrd 0 0 (l.drop k) with
      | none =>
        simp only [hv2] at hR
        have HR := Lib.hid hR
        have HV2 := Lib.hid hv2
        clear hR h he hBr hB hv hv2
        subst hvn
        go_enter Tryd.func89, Tryd.ntmps89
        go_wp2_with (first
          | (go_at_call 60; (first
            | ((with_reducible refine HC.out.mono ?_); rintro e_ w1 ⟨rfl, h1, h2⟩; have H1 := Lib.hid h1; have H2 := Lib.hid h2; clear h1 h2)
            | ((with_reducible refine (decVarI_bad B pe pl r g l k w1 H2.out (HE.out.1.below (grown_below H1.out HE.out.2.2 HE.out.2.1)) HE.out.2.1 HV2.out).mono ?_); rintro e_ w2 ⟨ev, rfl, h1⟩; obtain ⟨a, s, rfl, h2⟩ : ∃ a s, ev = errV a ∧ Hid (w2.cell? a = some (.string s) ∧ s.data.toList ≠ []) := (by obtain ⟨a, s, e1, e2, e3⟩ := h1.2.1; exact ⟨a, s, e1, Lib.hid ⟨e2, e3⟩⟩); have H3 := Lib.hid h1; clear h1)))
          | (go_at_call 95; go_loud (refine (errNew_any _ _).mono ?_; rintro e_ w3 ⟨rfl, rfl⟩)))
        go_ret
        obtain ⟨hg, _, i', hrd⟩ := H3.out
        exact .inr ⟨HR.out.symm, _, rfl, err_new _ (by simp) (grown_trans H1.out hg) hrd⟩
      | some p =>
        obtain ⟨v2, k2⟩ := p
        simp only [hv2] at hR
        by_cases h0 : wrap64 (v2 : Int) = 0
        · simp only [if_pos h0] at hR
          have HR := Lib.hid hR
          have HV2 := Lib.hid hv2
          have hz : (wrap64 (v2 : Int) != 0) = false := by rw [h0]; rfl
          clear hR h he hBr hB hv hv2
          subst hvn
          go_enter Tryd.func89, Tryd.ntmps89
          go_wp2_with (go_at_call 60; (first
              | ((with_reducible refine HC.out.mono ?_); rintro e_ w1 ⟨rfl, h1, h2⟩; have H1 := Lib.hid h1; have H2 := Lib.hid h2; clear h1 h2)
              | ((with_reducible refine (decVarI_ok B pe pl r g l k v2 k2 w1 H2.out (HE.out.1.below (grown_below H1.out HE.out.2.2 HE.out.2.1)) HE.out.2.1 HV2.out).mono ?_); rintro e_ w2 ⟨rfl, h1, h2⟩; have H3 := Lib.hid h1; have H4 := Lib.hid h2; clear h1 h2)))
          go_ret
          exact .inl ⟨_, HR.out.symm, rfl, grown_trans H1.out H3.out, H4.out⟩
        · simp only [if_neg h0] at hR
          have HR := Lib.hid hR
          have HV2 := Lib.hid hv2
          have hz : (wrap64 (v2 : Int) != 0) = true := by rw [bne_iff_ne]; exact h0
          clear hR h he hBr hB hv hv2
          subst hvn
          go_enter Tryd.func89, Tryd.ntmps89
          go_wp2_with (first
            | (go_at_call 60; (first
              | ((with_reducible refine HC.out.mono ?_); rintro e_ w1 ⟨rfl, h1, h2⟩; have H1 := Lib.hid h1; have H2 := Lib.hid h2; clear h1 h2)
              | ((with_reducible refine (decVarI_ok B pe pl r g l k v2 k2 w1 H2.out (HE.out.1.below (grown_below H1.out HE.out.2.2 HE.out.2.1)) HE.out.2.1 HV2.out).mono ?_); rintro e_ w2 ⟨rfl, h1, h2⟩; have H3 := Lib.hid h1; have H4 := Lib.hid h2; clear h1 h2)))
            | (go_at_call 95; go_loud (refine (errNew_any _ _).mono ?_; rintro e_ w3 ⟨rfl, rfl⟩)))
          go_ret
          exact .inr ⟨HR.out.symm, _, rfl, err_new _ (by simp) (grown_trans H1.out H3.out) H4.out⟩
    · rw [if_neg hvn] at hR
      have HR := Lib.hid hR
      have hz : (wrap64 (v : Int) != n) = true := by rw [bne_iff_ne]; exact hvn
      clear hR h he hBr hB hv
      go_enter Tryd.func89, Tryd.ntmps89
      go_wp2_with (first
        | (go_at_call 60; go_loud (refine HC.out.mono ?_; rintro e_ w1 ⟨rfl, h1, h2⟩; have H1 := Lib.hid h1; have H2 := Lib.hid h2; clear h1 h2))
        | (go_at_call 95; go_loud (refine (errNew_any _ _).mono ?_; rintro e_ w3 ⟨rfl, rfl⟩)))
      go_ret
      exact .inr ⟨HR.out.symm, _, rfl, err_new _ (by simp) H1.out H2.out⟩
end Go.Proofs.YtgdbeiadlgkedaaDoor

/- The walk of the statement on a row's simple header. -/
namespace Go.Proofs.YtgdbeiadlgkedaaDoor
open Go.RowKit
open Go.Joins (below_bytesWorld)
set_option linter.unusedVariables false
set_option linter.unusedSimpArgs false

set_option maxHeartbeats 4000000 in
set_option maxRecDepth 100000 in
theorem sho_ok (B : Nat) (pe pl : Addr) (n : Int) (t : ByteArray) (k : Nat) (w : World) (ht : t.size ≤ 4294967296) (he : Env B pe pl w) (hB : B ≤ w.heap.size) (hR : rsh n t.data.toList = some k) :
    Calls Tryd.prog 38 #[.int .i64 n, .string t] w fun e w' => e = .returned (.tuple #[.int .i64 k, .string ⟨#[]⟩]) ∧ Below w.heap.size w w' := by
  have kc := conv_bytes
  have HS := Lib.hid (And.intro ht (And.intro hB he))
  have HK := Lib.hid hR
  clear ht he hB hR
  have HC : Hid (∀ (r : Nat) (w1 : World), Rd r w.heap.size t.data.toList 0 w1 → Below w.heap.size w w1 → w.heap.size < r → Calls Tryd.prog 89 #[.int .i64 n, rdI r] w1 fun e w' => e = .returned .nilIface ∧ w1.grownBy w' (some r) ∧ Rd r w.heap.size t.data.toList k w') := Lib.hid (fun r w1 h1 h2 h3 => by
    obtain ⟨a1, a2, a3⟩ := rn_start HS.out.2.1 HS.out.2.2 h2 h3
    refine (readSimple_any B pe pl r _ n _ w1 h1 a1 a2 a3 _ HK.out).mono ?_
    rintro e w' (⟨k', hk, b1, b2, b3⟩ | ⟨hn, _⟩)
    · obtain rfl := Option.some.inj hk; exact ⟨b1, b2, b3⟩
    · exact absurd hn (by simp))
  go_enter Tryd.func38, Tryd.ntmps38
  go_wp2_with (first
    | (go_at_call 45; go_loud (refine (newRd_any w w.heap.size rfl t HS.out.1).mono ?_; rintro e_ w1 ⟨r, rfl, hr1, hr2, hr3⟩; have HR := Lib.hid (And.intro hr1 (And.intro hr2 hr3)); clear hr1 hr2 hr3))
    | (go_at_call 89; go_loud (refine (HC.out r w1 HR.out.1 HR.out.2.1 HR.out.2.2).mono ?_; rintro e_ w2 ⟨rfl, h2, h3⟩; have HB := Lib.hid (HR.out.2.1.trans (grown_below h2 HR.out.2.1.size (Nat.le_of_lt HR.out.2.2))); have HRD := Lib.hid h3; obtain ⟨L, hL⟩ : ∃ L, Hid (t.data.toList.length - k = L) := ⟨_, Lib.hid rfl⟩; have qs : (t.size : Int) - (L : Int) = (k : Int) := (by have h1 := h3.le; have h2 : t.data.toList.length = t.size := (by rw [Array.length_toList]; rfl); have := hL.out; omega); have qs2 : IntKind.i64.wrap (k : Int) = (k : Int) := IntWalk.i64_in _ (by have := h3.le; have := h3.len; omega); have qs3 : wrap64 (k : Int) = (k : Int) := IntWalk.wrap64_in _ (by have := h3.le; have := h3.len; omega); clear h2 h3))
    | (go_at_call 62; go_loud (refine (len_any r w.heap.size t.data.toList k w2 HRD.out).mono ?_; rw [hL.out]; rintro e_ w4 ⟨rfl, q4, rfl⟩))
    | (go_at_call 63; go_loud (refine (word_nil _).mono ?_; rintro e_ w5 ⟨rfl, rfl⟩)))
  go_ret2
  exact ⟨rfl, below_drewN HB.out q4⟩
set_option maxHeartbeats 4000000 in
set_option maxRecDepth 100000 in
theorem sho_bad (B : Nat) (pe pl : Addr) (n : Int) (t : ByteArray) (w : World) (ht : t.size ≤ 4294967296) (he : Env B pe pl w) (hB : B ≤ w.heap.size) (hR : rsh n t.data.toList = none) :
    Calls Tryd.prog 38 #[.int .i64 n, .string t] w fun e w' => ∃ (i : Nat) (s : ByteArray), e = .returned (.tuple #[.int .i64 i, .string s]) ∧ s.data.toList ≠ [] ∧ Below w.heap.size w w' := by
  have kc := conv_bytes
  have HS := Lib.hid (And.intro ht (And.intro hB he))
  have HK := Lib.hid hR
  clear ht he hB hR
  have HC : Hid (∀ (r : Nat) (w1 : World), Rd r w.heap.size t.data.toList 0 w1 → Below w.heap.size w w1 → w.heap.size < r → Calls Tryd.prog 89 #[.int .i64 n, rdI r] w1 fun e w' => ∃ (a : Addr) (s : ByteArray) (i : Nat), e = .returned (errV a) ∧ w1.grownBy w' (some r) ∧ Rd r w.heap.size t.data.toList i w' ∧ w'.cell? a = some (.string s) ∧ s.data.toList ≠ []) := Lib.hid (fun r w1 h1 h2 h3 => by
    obtain ⟨a1, a2, a3⟩ := rn_start HS.out.2.1 HS.out.2.2 h2 h3
    refine (readSimple_any B pe pl r _ n _ w1 h1 a1 a2 a3 _ HK.out).mono ?_
    rintro e w' (⟨k', hk, _⟩ | ⟨_, ev, b1, b2, ⟨a, s, e1, e2, e3⟩, i, b3⟩)
    · exact absurd hk (by simp)
    · exact ⟨a, s, i, by rw [b1, e1], b2, b3, e2, e3⟩)
  go_enter Tryd.func38, Tryd.ntmps38
  go_wp2_with (first
    | (go_at_call 45; go_loud (refine (newRd_any w w.heap.size rfl t HS.out.1).mono ?_; rintro e_ w1 ⟨r, rfl, hr1, hr2, hr3⟩; have HR := Lib.hid (And.intro hr1 (And.intro hr2 hr3)); clear hr1 hr2 hr3))
    | (go_at_call 89; go_loud (refine (HC.out r w1 HR.out.1 HR.out.2.1 HR.out.2.2).mono ?_; rintro e_ w2 ⟨a, s, k, rfl, h2, h3, h4, h5⟩; have HB := Lib.hid (HR.out.2.1.trans (grown_below h2 HR.out.2.1.size (Nat.le_of_lt HR.out.2.2))); have HRD := Lib.hid h3; have HEW := Lib.hid (And.intro h4 h5); obtain ⟨L, hL⟩ : ∃ L, Hid (t.data.toList.length - k = L) := ⟨_, Lib.hid rfl⟩; have qs : (t.size : Int) - (L : Int) = (k : Int) := (by have h1 := h3.le; have h2 : t.data.toList.length = t.size := (by rw [Array.length_toList]; rfl); have := hL.out; omega); have qs2 : IntKind.i64.wrap (k : Int) = (k : Int) := IntWalk.i64_in _ (by have := h3.le; have := h3.len; omega); have qs3 : wrap64 (k : Int) = (k : Int) := IntWalk.wrap64_in _ (by have := h3.le; have := h3.len; omega); clear h2 h3 h4 h5))
    | (go_at_call 62; go_loud (refine (len_any r w.heap.size t.data.toList k w2 HRD.out).mono ?_; rw [hL.out]; rintro e_ w4 ⟨rfl, q4, rfl⟩))
    | (go_at_call 63; go_loud (refine (word_err a s (w2.drewN q4) (by exact HEW.out.1)).mono ?_; rintro e_ w5 ⟨rfl, rfl⟩)))
  go_ret2
  exact ⟨k, s, rfl, HEW.out.2, below_drewN HB.out q4⟩
theorem conv_empty (W : World) (d : Nat) :
    (convert 29 9 (.slice (some ⟨d, 0, none⟩) 0 0)).run Tryd.prog W = .ok (.string ⟨#[]⟩) W :=
  run_convert_bytes_back (P := Tryd.prog) W 29 9 5 ⟨d, 0, none⟩ 0 [] Tryd.underlying29 Tryd.underlying5 Tryd.underlying9 (fun j hj => absurd hj (by simp))
theorem add_any (s t : ByteArray) (h : s.data.toList.length + t.data.toList.length ≤ 1000000) : ∀ W : World, (Op.stringOp .add s t).run Tryd.prog W = .ok (.string (s ++ t)) W := fun W =>
  run_string_add_sum W s t (by rw [Array.length_toList, Array.length_toList] at h; show s.data.size + t.data.size ≤ _; omega)
theorem uv0 : Lib.uvarint 0 = [0] := by rw [Lib.uvarint_small (by decide)]; rfl
theorem shead_len (n : Nat) (hn : n ≤ 1000000) : (shead n).length ≤ 11 := by
  unfold shead
  have := Lib.uvarint_length64 (x := n) (by omega)
  rw [List.length_append, uv0]; simp; omega
set_option maxHeartbeats 4000000 in
set_option maxRecDepth 100000 in
theorem rowHead_nil (n : Nat) (w : World) (hn : n ≤ 1000000) :
    Calls Tryd.prog 42 #[.int .i64 n, .slice none 0 0] w fun e w' => e = .returned (.string ⟨(shead n).toArray⟩) ∧ Below w.heap.size w w' := by
  have km : ∀ W : World, (Instr.makeSlice 29 (.int .i64 0) (.int .i64 0)).run Tryd.prog W = .ok (.slice (some ⟨W.heap.size, 0, none⟩) 0 0) (W.alloc (mkz 0)) := fun W => mk_bytes 0 (by omega) W
  have q1 : IntKind.u64.wrap (n : Int) = (n : Int) := by rw [IntKind.wrap_u64]; omega
  have q0 : IntKind.u64.wrap 0 = 0 := by rw [IntKind.wrap_u64]; rfl
  obtain ⟨s1, h1⟩ : ∃ s : ByteArray, s = ⟨(Lib.uvarint n).toArray⟩ := ⟨_, rfl⟩
  obtain ⟨s2, h2⟩ : ∃ s : ByteArray, s = ⟨(Lib.uvarint 0).toArray⟩ := ⟨_, rfl⟩
  have HC1 := Lib.hid (show ∀ W, Calls Tryd.prog 32 #[.int .u64 n] W fun e w' => e = .returned (.string s1) ∧ Below W.heap.size W w' from fun W => by rw [h1]; exact codVarint_any n W (by omega))
  have HC2 := Lib.hid (show ∀ W, Calls Tryd.prog 32 #[.int .u64 0] W fun e w' => e = .returned (.string s2) ∧ Below W.heap.size W w' from fun W => by rw [h2]; exact codVarint_any 0 W (by omega))
  have l1 : s1.data.toList.length ≤ 10 := by rw [h1]; exact Lib.uvarint_length64 (by omega)
  have l2 : s2.data.toList.length = 1 := by rw [h2, uv0]; rfl
  have k1 := add_any s1 s2 (by omega)
  have k2 := add_any (s1 ++ s2) ⟨#[]⟩ (by rw [data_append, List.length_append]; show _ + 0 ≤ _; omega)
  have k3 := conv_empty
  have HE := Lib.hid (show s1 ++ s2 ++ ⟨#[]⟩ = (⟨(shead n).toArray⟩ : ByteArray) from str_ext (by rw [data_append, data_append, h1, h2]; simp [shead]))
  clear hn h1 h2 l1 l2
  go_enter Tryd.func42, Tryd.ntmps42
  go_wp2
  refine wp_loop_rounds 1 ?_; rw [rounds_succ]
  go_wp2
  refine wp_loop_rounds 1 ?_; rw [rounds_succ]
  go_wp2
  go_region_with (go_at_call 32; (first
    | ((with_reducible refine (HC1.out _).mono ?_); rintro e_ w1 ⟨rfl, hb1⟩; have HB1 := Lib.hid hb1; clear hb1)
    | ((with_reducible refine (HC2.out _).mono ?_); rintro e_ w2 ⟨rfl, hb2⟩; have HB2 := Lib.hid hb2; clear hb2)))
  all_goals
    go_wp2
    go_ret
    have B0 : Below w.heap.size w (w.alloc (mkz 0)).drew := ((Below.refl _ w).alloc (Nat.le_refl _) _).drew
    have B1 := B0.trans (HB1.out.mono B0.size)
    exact ⟨ret_str HE.out, B1.trans (HB2.out.mono B1.size)⟩
theorem rsh_head (n : Nat) (m : Int) (rest : List UInt8) (hn : n ≤ 1000000) : rsh m (shead n ++ rest) = if (n : Int) = m then some (shead n).length else none := by
  have h1 : vrd 0 0 (shead n ++ rest) = some (n, (Lib.uvarint n).length) := by
    unfold shead; rw [List.append_assoc]; exact vrd_uv _ (by omega)
  have h2 : (shead n ++ rest).drop (Lib.uvarint n).length = Lib.uvarint 0 ++ rest := by
    unfold shead; rw [List.append_assoc, List.drop_left' rfl]
  have h3 : vrd 0 0 (Lib.uvarint 0 ++ rest) = some (0, (Lib.uvarint 0).length) := vrd_uv _ (by omega)
  have h4 : wrap64 (n : Int) = n := by unfold wrap64; omega
  unfold rsh
  simp only [h1, h2, h3, h4]
  split
  · rename_i h
    rw [if_pos (show wrap64 ((0 : Nat) : Int) = 0 by unfold wrap64; omega)]
    congr 1
    unfold shead
    rw [List.length_append]
  · rfl
set_option maxHeartbeats 8000000 in
set_option maxRecDepth 100000 in
theorem rowSimple_row (pe pl : Addr) (n o : Int) (s : ByteArray) (w : World) (hn : (Lit.int .i64 n).wf = true) (ho : (Lit.int .i64 o).wf = true) (he : Env w.heap.size pe pl w) :
    Calls Tryd.prog 17 #[.int .i64 n, .int .i64 o, .string s] w fun e w' => e = .returned (.bool true) ∧ Below w.heap.size w w' := by
  have HE := Lib.hid he
  by_cases h1 : 2147483647 < s.size
  · have hc : 2147483647 < (s.size : Int) := by omega
    clear he hn ho h1
    go_enter Tryd.func17, Tryd.ntmps17
    go_wp2
    go_ret
    exact ⟨rfl, Below.refl _ w⟩
  · have hc : ¬ 2147483647 < (s.size : Int) := by omega
    have HA := Lib.hid (awake_any w.heap.size pe pl w he (Nat.le_refl _))
    by_cases c1 : n < 0
    · clear he hn ho h1
      go_enter Tryd.func17, Tryd.ntmps17
      go_wp2_with (go_at_call 21; go_loud (refine HA.out.mono ?_; rintro e_ w1 ⟨rfl, hb1⟩; have HB1 := Lib.hid hb1; clear hb1))
      go_ret
      exact ⟨rfl, HB1.out⟩
    · by_cases c2 : 1000000 < n
      · clear he hn ho h1
        go_enter Tryd.func17, Tryd.ntmps17
        go_wp2_with (go_at_call 21; go_loud (refine HA.out.mono ?_; rintro e_ w1 ⟨rfl, hb1⟩; have HB1 := Lib.hid hb1; clear hb1))
        go_ret
        exact ⟨rfl, HB1.out⟩
      · by_cases c3 : o < 0
        · clear he hn ho h1
          go_enter Tryd.func17, Tryd.ntmps17
          go_wp2_with (go_at_call 21; go_loud (refine HA.out.mono ?_; rintro e_ w1 ⟨rfl, hb1⟩; have HB1 := Lib.hid hb1; clear hb1))
          go_ret
          exact ⟨rfl, HB1.out⟩
        · by_cases c4 : 1000000 < o
          · clear he hn ho h1
            go_enter Tryd.func17, Tryd.ntmps17
            go_wp2_with (go_at_call 21; go_loud (refine HA.out.mono ?_; rintro e_ w1 ⟨rfl, hb1⟩; have HB1 := Lib.hid hb1; clear hb1))
            go_ret
            exact ⟨rfl, HB1.out⟩
          · by_cases c5 : 50 < (s.size : Int)
            · clear he hn ho h1
              go_enter Tryd.func17, Tryd.ntmps17
              go_wp2_with (go_at_call 21; go_loud (refine HA.out.mono ?_; rintro e_ w1 ⟨rfl, hb1⟩; have HB1 := Lib.hid hb1; clear hb1))
              go_ret
              exact ⟨rfl, HB1.out⟩
            · obtain ⟨k, rfl⟩ := Int.eq_ofNat_of_zero_le (show 0 ≤ n by omega)
              obtain ⟨m, rfl⟩ := Int.eq_ofNat_of_zero_le (show 0 ≤ o by omega)
              have HK := Lib.hid (show k ≤ 1000000 ∧ m ≤ 1000000 ∧ s.size ≤ 50 by omega)
              have c2' : ¬ 1000000 < (k : Int) := c2
              have c4' : ¬ 1000000 < (m : Int) := c4
              obtain ⟨t, ht⟩ : ∃ t : ByteArray, t = ⟨(shead k).toArray⟩ := ⟨_, rfl⟩
              have HT := Lib.hid ht
              have hl := shead_len k HK.out.1
              have hsl : s.data.toList.length ≤ 50 := by rw [Array.length_toList]; exact HK.out.2.2
              have htl : t.data.toList = shead k := by rw [ht]
              have kadd := add_any t s (by rw [htl]; omega)
              have HU := Lib.hid (show (t ++ s).data.toList = shead k ++ s.data.toList by rw [data_append, htl])
              obtain ⟨L, hL⟩ : ∃ L, Hid ((shead k).length = L) := ⟨_, Lib.hid rfl⟩
              have htz : t.size = L := by rw [← hL.out, ← htl, Array.length_toList]; rfl
              have HUS := Lib.hid (show (t ++ s).size ≤ 4294967296 by
                have : (t ++ s).data.toList.length = (t ++ s).size := by rw [Array.length_toList]; rfl
                rw [← this, HU.out, List.length_append]; omega)
              have HC1 := Lib.hid (show ∀ W, Calls Tryd.prog 41 #[.int .i64 k] W fun e w' => e = .returned (.tuple #[.string t, .string ⟨#[]⟩]) ∧ Below W.heap.size W w' from fun W => by rw [ht]; exact simpleHeader_any k W HK.out.1)
              have HC2 := Lib.hid (show ∀ W, Calls Tryd.prog 42 #[.int .i64 k, .slice none 0 0] W fun e w' => e = .returned (.string t) ∧ Below W.heap.size W w' from fun W => by rw [ht]; exact rowHead_nil k W HK.out.1)
              have HC3 := Lib.hid (show ∀ W, Below w.heap.size w W → Calls Tryd.prog 38 #[.int .i64 k, .string (t ++ s)] W fun e w' => e = .returned (.tuple #[.int .i64 L, .string ⟨#[]⟩]) ∧ Below W.heap.size W w' from fun W hW => sho_ok w.heap.size pe pl k _ L W HUS.out (HE.out.below hW) hW.size (by rw [HU.out, rsh_head k k _ HK.out.1, if_pos rfl, hL.out]))
              clear he hn ho h1 ht hl hsl htl c1 c2 c3 c4
              by_cases hkm : m = k
              · subst hkm
                go_enter Tryd.func17, Tryd.ntmps17
                go_wp2_with (first
                  | (go_at_call 41; go_loud (refine (HC1.out _).mono ?_; rintro e_ w1 ⟨rfl, hb1⟩; have HB1 := Lib.hid hb1; clear hb1))
                  | (go_at_call 42; go_loud (refine (HC2.out _).mono ?_; rintro e_ w2 ⟨rfl, hb2⟩; have HB2 := Lib.hid (HB1.out.trans (hb2.mono HB1.out.size)); clear hb2))
                  | (go_at_call 38; (first
                    | ((with_reducible refine (HC3.out w2 HB2.out).mono ?_); rintro e_ w3 ⟨rfl, hb3⟩; have HB3 := Lib.hid (HB2.out.trans (hb3.mono HB2.out.size)); clear hb3)
                    | ((with_reducible refine (HC3.out w3 HB3.out).mono ?_); rintro e_ w4 ⟨rfl, hb4⟩; have HB4 := Lib.hid (HB3.out.trans (hb4.mono HB3.out.size)); clear hb4)))
                  | (go_at_call 21; go_loud (refine (awake_any w.heap.size pe pl _ (HE.out.below HB4.out) HB4.out.size).mono ?_; rintro e_ w5 ⟨rfl, hb5⟩; have HB5 := Lib.hid (HB4.out.trans (hb5.mono HB4.out.size)); clear hb5)))
                go_ret
                exact ⟨rfl, HB5.out⟩
              · have HC4 := Lib.hid (show ∀ W, Below w.heap.size w W → Calls Tryd.prog 38 #[.int .i64 m, .string (t ++ s)] W fun e w' => ∃ (i : Nat) (s : ByteArray), e = .returned (.tuple #[.int .i64 i, .string s]) ∧ s.data.toList ≠ [] ∧ Below W.heap.size W w' from fun W hW => sho_bad w.heap.size pe pl m _ W HUS.out (HE.out.below hW) hW.size (by rw [HU.out, rsh_head k m _ HK.out.1, if_neg (by omega)]))
                have hne : ((m : Int) == (k : Int)) = false := by rw [beq_eq_false_iff_ne]; omega
                clear hkm
                go_enter Tryd.func17, Tryd.ntmps17
                go_wp2_with (first
                  | (go_at_call 41; go_loud (refine (HC1.out _).mono ?_; rintro e_ w1 ⟨rfl, hb1⟩; have HB1 := Lib.hid hb1; clear hb1))
                  | (go_at_call 42; go_loud (refine (HC2.out _).mono ?_; rintro e_ w2 ⟨rfl, hb2⟩; have HB2 := Lib.hid (HB1.out.trans (hb2.mono HB1.out.size)); clear hb2))
                  | (go_at_call 38; (first
                    | ((with_reducible refine (HC3.out w2 HB2.out).mono ?_); rintro e_ w3 ⟨rfl, hb3⟩; have HB3 := Lib.hid (HB2.out.trans (hb3.mono HB2.out.size)); clear hb3)
                    | ((with_reducible refine (HC4.out w3 HB3.out).mono ?_); rintro e_ w4 ⟨i4, s4, rfl, hs4, hb4⟩; have hne4 := ne_empty hs4; have HB4 := Lib.hid (HB3.out.trans (hb4.mono HB3.out.size)); clear hb4 hs4)))
                  | (go_at_call 21; go_loud (refine (awake_any w.heap.size pe pl _ (HE.out.below HB4.out) HB4.out.size).mono ?_; rintro e_ w5 ⟨rfl, hb5⟩; have HB5 := Lib.hid (HB4.out.trans (hb5.mono HB4.out.size)); clear hb5)))
                go_ret
                exact ⟨rfl, HB5.out⟩
end Go.Proofs.YtgdbeiadlgkedaaDoor
