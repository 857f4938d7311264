/- Contracts and plain laws, several texts in one. -/
import Derived.Test.YtgdbeiadlgkedaaDoorMRowBack5
import Derived.LoopTactic
import Derived.Laws.IdiomStrings
import Derived.Laws.Concat
/- The walks of the statements on how long a number is, and on the order of times. -/
namespace Go.Proofs.YtgdbeiadlgkedaaDoor
open Go.RowKit
set_option linter.unusedVariables false
set_option linter.unusedSimpArgs false

theorem uvarint_ge : ∀ (k x : Nat), 128 ^ k ≤ x → k + 1 ≤ (Lib.uvarint x).length
  | 0, x, _ => Lib.uvarint_pos x
  | k + 1, x, h => by
    have h1 : 128 ≤ x := Nat.le_trans (by rw [Nat.pow_succ]; have := Nat.pow_pos (n := k) (show 0 < 128 by decide); omega) h
    rw [Lib.uvarint_big h1, List.length_cons]
    have := uvarint_ge k (x / 128) (by rw [Nat.pow_succ] at h; exact (Nat.le_div_iff_mul_le (by decide)).2 h)
    omega
theorem uvarint_ten {x : Nat} (h : 9223372036854775808 ≤ x) (h2 : x < 18446744073709551616) : (Lib.uvarint x).length = 10 := by
  have h1 := uvarint_ge 9 x (by have : (128 : Nat) ^ 9 = 9223372036854775808 := by decide
                                omega)
  have := Lib.uvarint_length64 h2
  omega
def vlen (u : Nat) : Nat := if u = 0 then 0 else (Lib.uvarint u).length
theorem vlen_step {u : Nat} (h : u ≠ 0) : vlen u = 1 + vlen (u / 128) := by
  unfold vlen
  rw [if_neg h]
  by_cases h1 : u < 128
  · rw [if_pos (by omega), Lib.uvarint_small h1]; rfl
  · rw [if_neg (by omega), Lib.uvarint_big (by omega), List.length_cons]; omega
theorem size_mk (l : List UInt8) : (ByteArray.mk l.toArray).size = l.length := by simp [ByteArray.size]
set_option maxHeartbeats 4000000 in
set_option maxRecDepth 100000 in
theorem varLength_walk (B : Nat) (pe pl : Addr) (n : Nat) (w : World) (hn : n < 18446744073709551616) (he : Env B pe pl w) (hB : B ≤ w.heap.size) :
    Calls Tryd.prog 10 #[.int .u64 n] w fun e w' => e = .returned (.bool true) ∧ Below w.heap.size w w' := by
  obtain ⟨y, hy⟩ : ∃ y, y = wrap64 (n : Int) := ⟨_, rfl⟩
  have hu : u64of y = n := by rw [hy]; unfold u64of wrap64; omega
  have hC1 : ∀ W, Calls Tryd.prog 27 #[.agg #[.int .i64 12, .bool false, .int .i64 0, .int .u64 (n : Int), .int .u64 0, .string ⟨#[]⟩, .int .i64 0, .bool false, .bool false, .int .i64 0, .int .i64 0]] W fun e w' => e = .returned (.tuple #[.string ⟨(Lib.uvarint n).toArray⟩, .string ⟨#[]⟩]) ∧ Below W.heap.size W w' := fun W => by
    have := encVal_12 false 0 n 0 ⟨#[]⟩ 0 false false 0 0 W (by omega) (by omega); rwa [Int.toNat_natCast] at this
  have hC2 : ∀ W, Calls Tryd.prog 27 #[.agg #[.int .i64 11, .bool false, .int .i64 y, .int .u64 0, .int .u64 0, .string ⟨#[]⟩, .int .i64 0, .bool false, .bool false, .int .i64 0, .int .i64 0]] W fun e w' => e = .returned (.tuple #[.string ⟨(Lib.uvarint n).toArray⟩, .string ⟨#[]⟩]) ∧ Below W.heap.size W w' := fun W => by
    have := encVal_11 false y 0 0 ⟨#[]⟩ 0 false false 0 0 W; rwa [hu] at this
  obtain ⟨s, hs⟩ : ∃ s : ByteArray, s = ⟨(Lib.uvarint n).toArray⟩ := ⟨_, rfl⟩
  rw [← hs] at hC1 hC2
  obtain ⟨L, hL⟩ : ∃ L, Hid ((Lib.uvarint n).length = L) := ⟨_, Lib.hid rfl⟩
  have hsz : s.size = L := by rw [hs, size_mk, hL.out]
  have HSZ := Lib.hid hsz
  have HC1 := Lib.hid hC1
  have HC2 := Lib.hid hC2
  have HE := Lib.hid (And.intro he hB)
  have HN := Lib.hid hn
  have HL1 := Lib.hid (Lib.uvarint_length64 hn)
  have H0 := Lib.hid (show 1 + vlen (n / 128) = L by
    rw [← hL.out]
    by_cases h1 : n < 128
    · rw [show n / 128 = 0 by omega, Lib.uvarint_small h1]; rfl
    · unfold vlen
      rw [if_neg (by omega), Lib.uvarint_big (x := n) (by omega), List.length_cons]; omega)
  have HY := Lib.hid (show (0 ≤ y) ∨ (y < 0 ∧ L = 10) by
    rw [hy, ← hL.out]
    by_cases h1 : n < 9223372036854775808
    · left; unfold wrap64; omega
    · right; exact ⟨by unfold wrap64; omega, uvarint_ten (by omega) hn⟩)
  have hq : (n : Int) / 128 = ((n / 128 : Nat) : Int) := by omega
  obtain ⟨q, hq0⟩ : ∃ q, Hid (n / 128 = q) := ⟨_, Lib.hid rfl⟩
  rw [hq0.out] at hq
  have HYE := hy.symm
  clear hC1 hC2 he hB hn hs hu hsz hy
  go_enter Tryd.func10, Tryd.ntmps10
  go_wp2
  go_loopg [3, 4] q (fun kq v3 v4 wr => ∃ k : Nat, v3 = .int .i64 k ∧ v4 = .int .u64 kq ∧ Hid (k + vlen kq = L) ∧ w = wr)
  case atStart => exact ⟨1, rfl, rfl, by rw [hq0.out] at H0; exact H0, rfl⟩
  case round =>
    obtain ⟨k, rfl, rfl, HK, hwr⟩ := hrel
    subst hwr
    by_cases hz : gk = 0
    · subst hz
      obtain rfl : k = L := by have := HK.out; simpa [vlen] using this
      clear HK hq
      rcases HY.out with h | ⟨h, h10⟩
      · have q1 : decide (0 ≤ y) = true := by simpa using h
        have q2 := HSZ.out
        go_wp2_with (first
          | (go_at_call 27; (first | ((with_reducible refine (HC1.out w).mono ?_); rintro e_ w1 ⟨rfl, hb1⟩; have HB1 := Lib.hid hb1; clear hb1) | ((with_reducible refine (HC2.out w1).mono ?_); rintro e_ w2 ⟨rfl, hb2⟩; have HB2 := Lib.hid (HB1.out.trans (hb2.mono HB1.out.size)); clear hb2)))
          | (go_at_call 21; go_loud (refine (awake_any B pe pl w2 (HE.out.1.below (HB2.out.mono HE.out.2)) (Nat.le_trans HE.out.2 HB2.out.size)).mono ?_; rintro e_ w3 ⟨rfl, hb3⟩; have HB3 := Lib.hid (HB2.out.trans (hb3.mono HB2.out.size)); clear hb3)))
        go_ret
        exact ⟨rfl, HB3.out⟩
      · have q1 : decide (0 ≤ y) = false := by simpa using h
        have q2 := HSZ.out
        have q3 : ((k : Int) == 10) = true := by rw [beq_iff_eq]; omega
        clear h10
        go_wp2_with (first
          | (go_at_call 27; (first | ((with_reducible refine (HC1.out w).mono ?_); rintro e_ w1 ⟨rfl, hb1⟩; have HB1 := Lib.hid hb1; clear hb1) | ((with_reducible refine (HC2.out w1).mono ?_); rintro e_ w2 ⟨rfl, hb2⟩; have HB2 := Lib.hid (HB1.out.trans (hb2.mono HB1.out.size)); clear hb2)))
          | (go_at_call 21; go_loud (refine (awake_any B pe pl w2 (HE.out.1.below (HB2.out.mono HE.out.2)) (Nat.le_trans HE.out.2 HB2.out.size)).mono ?_; rintro e_ w3 ⟨rfl, hb3⟩; have HB3 := Lib.hid (HB2.out.trans (hb3.mono HB2.out.size)); clear hb3)))
        go_ret
        exact ⟨rfl, HB3.out⟩
    · have h2 : (gk : Int) / 128 = ((gk / 128 : Nat) : Int) := by omega
      obtain ⟨d, hd⟩ : ∃ d, Hid (gk / 128 = d) := ⟨_, Lib.hid rfl⟩
      rw [hd.out] at h2
      have HK1 := Lib.hid (show k + 1 + vlen d = L by have := HK.out; rw [vlen_step hz, hd.out] at this; omega)
      have HKL := Lib.hid (show k ≤ 10 by have := HK.out; have := HL1.out; have := hL.out; omega)
      have HDL := Lib.hid (show d < gk by have := hd.out; omega)
      have hw1 : IntKind.i64.wrap ((k : Int) + 1) = (k : Int) + 1 := IntWalk.i64_in _ (by have := HKL.out; omega)
      have hw2 : wrap64 ((k : Int) + 1) = (k : Int) + 1 := IntWalk.wrap64_in _ (by have := HKL.out; omega)
      have hp : 0 < (gk : Int) := by omega
      clear hq hz HK
      go_wp2
      go_roundg d
      case measure => exact HDL.out
      case rel => exact ⟨k + 1, by go_num, rfl, HK1, rfl⟩
theorem u64_bd {n : Int} (h : (Lit.int .u64 n).wf = true) : 0 ≤ n ∧ n < 18446744073709551616 := by
  have hmin : IntKind.u64.min = 0 := rfl
  have hmax : IntKind.u64.max = 18446744073709551615 := rfl
  simp only [Lit.wf, Bool.and_eq_true, decide_eq_true_eq] at h
  omega
theorem i64_bd {n : Int} (h : (Lit.int .i64 n).wf = true) : -9223372036854775808 ≤ n ∧ n ≤ 9223372036854775807 := by
  have hmin : IntKind.i64.min = -9223372036854775808 := rfl
  have hmax : IntKind.i64.max = 9223372036854775807 := rfl
  simp only [Lit.wf, Bool.and_eq_true, decide_eq_true_eq] at h
  omega
theorem u8_bd {n : Int} (h : (Lit.int .u8 n).wf = true) : 0 ≤ n ∧ n < 256 := by
  have hmin : IntKind.u8.min = 0 := rfl
  have hmax : IntKind.u8.max = 255 := rfl
  simp only [Lit.wf, Bool.and_eq_true, decide_eq_true_eq] at h
  omega
theorem varLength_row (pe pl : Addr) (n : Int) (w : World) (hn : (Lit.int .u64 n).wf = true) (he : Env w.heap.size pe pl w) :
    Calls Tryd.prog 10 #[.int .u64 n] w fun e w' => e = .returned (.bool true) ∧ Below w.heap.size w w' := by
  obtain ⟨h0, h1⟩ := u64_bd hn
  obtain ⟨k, rfl⟩ := Int.eq_ofNat_of_zero_le h0
  exact varLength_walk w.heap.size pe pl k w (by omega) he (Nat.le_refl _)
end Go.Proofs.YtgdbeiadlgkedaaDoor

/- Contracts: DecodeValue of kind 0. -/
namespace Go.Proofs.YtgdbeiadlgkedaaDoor
open Go.RowKit
set_option linter.unusedVariables false
set_option linter.unusedSimpArgs false

set_option maxHeartbeats 8000000 in
set_option maxRecDepth 100000 in
theorem decVal_0_f (B : Nat) (pe pl : Addr) (t : ByteArray) (w : World) (ht : t.size ≤ 4294967296) (he : Env B pe pl w) (hB : B ≤ w.heap.size) (hR : t.data.toList[0]? = some 0) :
    Calls Tryd.prog 20 #[.int .i64 0, .string t] w fun e w' => e = .returned (.tuple #[.agg #[(.int .i64 0), (.bool false), (.int .i64 0), (.int .u64 0), (.int .u64 0), (.string ⟨#[]⟩), (.int .i64 0), (.bool false), (.bool false), (.int .i64 0), (.int .i64 0)], .int .i64 (1 : Nat), .string ⟨#[]⟩]) ∧ Below w.heap.size w w' := by
  have kc := conv_bytes
  have HT := Lib.hid (And.intro ht (And.intro he hB))
  have HY := Lib.hid hR
  clear ht he hB hR
  go_enter Tryd.func20, Tryd.ntmps20
  go_wp2_with (first
    | (go_at_call 45; go_loud (refine (newRd_any (w.alloc (.cells (zv 0) 26)) (w.heap.size + 1) (World.size_alloc ..) t HT.out.1).mono ?_; rintro e_ w1 ⟨r, rfl, hr1, hr2, hr3⟩; obtain ⟨hs1, hs2, hs3, hs4⟩ := dv_start (b := 0) HT.out.2.2 HT.out.2.1 hr2 hr3; have y0 : w1.cell? ⟨w.heap.size, 0, none⟩ = some (.int .i64 0) := (blk_cell hs1 0).trans rfl; have g0 : w1.frozen? ⟨w.heap.size, 0, none⟩ = false := blk_frozen hs1 0; have HS := Lib.hid (And.intro hr1 (And.intro hs1 (And.intro hs2 (And.intro hs3 hs4)))); have HR3 := Lib.hid hr3; clear hr1 hr2 hr3 hs1 hs2 hs3 hs4))
    | (go_at_call 46; go_loud (refine (decBool_0 r (w.heap.size + 1) t.data.toList 0 0 _ ?rd HY.out rfl).mono ?_; (case rd => exact HS.out.1.set _ _ (by have := HR3.out; show w.heap.size ≠ r; omega) (by show w.heap.size ≠ w.heap.size + 1; omega)); rintro e_ w2 ⟨rfl, hg, hrd⟩; have hb2 : w2.heap[w.heap.size]? = some (.cells (zv 0) 26 (0, 0)) := (hg.block _ (by have := blk_lt HS.out.2.1; simpa [World.setCell] using this) (by have := HR3.out; intro e; cases e; omega)).trans ((Lib.heap_setCell_same (i := 0) HS.out.2.1 (.int .i64 0)).trans rfl); have c0 : w2.cell? ⟨w.heap.size, 0, none⟩ = some (.int .i64 0) := (blk_cell hb2 0).trans rfl; have f0 : w2.frozen? ⟨w.heap.size, 0, none⟩ = false := blk_frozen hb2 0; have c1 : w2.cell? ⟨w.heap.size, 1, none⟩ = some (.bool false) := (blk_cell hb2 1).trans rfl; have f1 : w2.frozen? ⟨w.heap.size, 1, none⟩ = false := blk_frozen hb2 1; have c2 : w2.cell? ⟨w.heap.size, 2, none⟩ = some (.int .i64 0) := (blk_cell hb2 2).trans rfl; have f2 : w2.frozen? ⟨w.heap.size, 2, none⟩ = false := blk_frozen hb2 2; have c3 : w2.cell? ⟨w.heap.size, 3, none⟩ = some (.int .u64 0) := (blk_cell hb2 3).trans rfl; have f3 : w2.frozen? ⟨w.heap.size, 3, none⟩ = false := blk_frozen hb2 3; have c4 : w2.cell? ⟨w.heap.size, 4, none⟩ = some (.int .u64 0) := (blk_cell hb2 4).trans rfl; have f4 : w2.frozen? ⟨w.heap.size, 4, none⟩ = false := blk_frozen hb2 4; have c5 : w2.cell? ⟨w.heap.size, 5, none⟩ = some (.string ⟨#[]⟩) := (blk_cell hb2 5).trans rfl; have f5 : w2.frozen? ⟨w.heap.size, 5, none⟩ = false := blk_frozen hb2 5; have c6 : w2.cell? ⟨w.heap.size, 6, none⟩ = some (.int .i64 0) := (blk_cell hb2 6).trans rfl; have f6 : w2.frozen? ⟨w.heap.size, 6, none⟩ = false := blk_frozen hb2 6; have c7 : w2.cell? ⟨w.heap.size, 7, none⟩ = some (.bool false) := (blk_cell hb2 7).trans rfl; have f7 : w2.frozen? ⟨w.heap.size, 7, none⟩ = false := blk_frozen hb2 7; have c8 : w2.cell? ⟨w.heap.size, 8, none⟩ = some (.bool false) := (blk_cell hb2 8).trans rfl; have f8 : w2.frozen? ⟨w.heap.size, 8, none⟩ = false := blk_frozen hb2 8; have c9 : w2.cell? ⟨w.heap.size, 9, none⟩ = some (.int .i64 0) := (blk_cell hb2 9).trans rfl; have f9 : w2.frozen? ⟨w.heap.size, 9, none⟩ = false := blk_frozen hb2 9; have c10 : w2.cell? ⟨w.heap.size, 10, none⟩ = some (.int .i64 0) := (blk_cell hb2 10).trans rfl; have f10 : w2.frozen? ⟨w.heap.size, 10, none⟩ = false := blk_frozen hb2 10; rw [Nat.zero_add] at hrd; have HB0 := Lib.hid hb2; have HG := Lib.hid hg; have HD := Lib.hid hrd; clear hg hrd hb2)))
  obtain ⟨W, hW⟩ : ∃ W, W = w2.setCell ⟨w.heap.size, 1, none⟩ (.bool false) := ⟨_, rfl⟩
  have HB2 := Lib.hid (show W.heap[w.heap.size]? = some (.cells #[(.int .i64 0), (.bool false), (.int .i64 0), (.int .u64 0), (.int .u64 0), (.string ⟨#[]⟩), (.int .i64 0), (.bool false), (.bool false), (.int .i64 0), (.int .i64 0)] 26 (0, 0)) by
    rw [hW]; exact (Lib.heap_setCell_same (i := 1) HB0.out (.bool false)).trans rfl)
  have HD2 := Lib.hid (show Rd r (w.heap.size + 1) t.data.toList 1 W by
    rw [hW]; exact HD.out.set ⟨w.heap.size, 1, none⟩ _ (by have := HR3.out; show w.heap.size ≠ r; omega) (by show w.heap.size ≠ w.heap.size + 1; omega))
  rw [← hW]
  have HW := Lib.hid hW
  clear hW c0 f0 c1 f1 c2 f2 c3 f3 c4 f4 c5 f5 c6 f6 c7 f7 c8 f8 c9 f9 c10 f10
  have c0 : W.cell? ⟨w.heap.size, 0, none⟩ = some (.int .i64 0) := (blk_cell HB2.out 0).trans rfl
  have f0 : W.frozen? ⟨w.heap.size, 0, none⟩ = false := blk_frozen HB2.out 0
  have c1 : W.cell? ⟨w.heap.size, 1, none⟩ = some (.bool false) := (blk_cell HB2.out 1).trans rfl
  have f1 : W.frozen? ⟨w.heap.size, 1, none⟩ = false := blk_frozen HB2.out 1
  have c2 : W.cell? ⟨w.heap.size, 2, none⟩ = some (.int .i64 0) := (blk_cell HB2.out 2).trans rfl
  have f2 : W.frozen? ⟨w.heap.size, 2, none⟩ = false := blk_frozen HB2.out 2
  have c3 : W.cell? ⟨w.heap.size, 3, none⟩ = some (.int .u64 0) := (blk_cell HB2.out 3).trans rfl
  have f3 : W.frozen? ⟨w.heap.size, 3, none⟩ = false := blk_frozen HB2.out 3
  have c4 : W.cell? ⟨w.heap.size, 4, none⟩ = some (.int .u64 0) := (blk_cell HB2.out 4).trans rfl
  have f4 : W.frozen? ⟨w.heap.size, 4, none⟩ = false := blk_frozen HB2.out 4
  have c5 : W.cell? ⟨w.heap.size, 5, none⟩ = some (.string ⟨#[]⟩) := (blk_cell HB2.out 5).trans rfl
  have f5 : W.frozen? ⟨w.heap.size, 5, none⟩ = false := blk_frozen HB2.out 5
  have c6 : W.cell? ⟨w.heap.size, 6, none⟩ = some (.int .i64 0) := (blk_cell HB2.out 6).trans rfl
  have f6 : W.frozen? ⟨w.heap.size, 6, none⟩ = false := blk_frozen HB2.out 6
  have c7 : W.cell? ⟨w.heap.size, 7, none⟩ = some (.bool false) := (blk_cell HB2.out 7).trans rfl
  have f7 : W.frozen? ⟨w.heap.size, 7, none⟩ = false := blk_frozen HB2.out 7
  have c8 : W.cell? ⟨w.heap.size, 8, none⟩ = some (.bool false) := (blk_cell HB2.out 8).trans rfl
  have f8 : W.frozen? ⟨w.heap.size, 8, none⟩ = false := blk_frozen HB2.out 8
  have c9 : W.cell? ⟨w.heap.size, 9, none⟩ = some (.int .i64 0) := (blk_cell HB2.out 9).trans rfl
  have f9 : W.frozen? ⟨w.heap.size, 9, none⟩ = false := blk_frozen HB2.out 9
  have c10 : W.cell? ⟨w.heap.size, 10, none⟩ = some (.int .i64 0) := (blk_cell HB2.out 10).trans rfl
  have f10 : W.frozen? ⟨w.heap.size, 10, none⟩ = false := blk_frozen HB2.out 10
  have qs : (t.size : Int) - ((t.data.toList.length - 1 : Nat) : Int) = (1 : Nat) := by
    have h1 := HD2.out.le
    have h2 : t.data.toList.length = t.size := by rw [Array.length_toList]; rfl
    omega
  have qs2 : IntKind.i64.wrap ((1 : Nat) : Int) = (1 : Nat) := IntWalk.i64_in _ (by have := HD2.out.le; have := HD2.out.len; omega)
  obtain ⟨L, hL⟩ : ∃ L, Hid (t.data.toList.length - 1 = L) := ⟨_, Lib.hid rfl⟩
  rw [hL.out] at qs
  go_region_with (first | (go_at_call 62; refine (len_any r (w.heap.size + 1) t.data.toList 1 _ ?rd).mono ?_; (case rd => exact HD2.out.drewN 1); rw [hL.out]; rintro e_ w4 ⟨rfl, q4, rfl⟩) | (go_at_call 63; refine (word_nil _).mono ?_; rintro e_ w5 ⟨rfl, rfl⟩))
  all_goals
    refine (by assumption : ∀ (a : Act) (w : World), Code.wp _ Code.ret _ a w → _) _ _ ?_
    go_wp2
    obtain ⟨X, hX⟩ : ∃ X, X = (W.drewN (1 + q4)).setCells w.heap.size 0 [(.int .i64 0), (.bool false), (.int .i64 0), (.int .u64 0), (.int .u64 0), (.string ⟨#[]⟩), (.int .i64 0), (.bool false), (.bool false), (.int .i64 0), (.int .i64 0)] := ⟨_, rfl⟩
    have hXb : X.heap[w.heap.size]? = some (.cells #[(.int .i64 0), (.bool false), (.int .i64 0), (.int .u64 0), (.int .u64 0), (.string ⟨#[]⟩), (.int .i64 0), (.bool false), (.bool false), (.int .i64 0), (.int .i64 0)] 26 (0, 0)) := by
      rw [hX]; exact setCells_self _ _ _ _ _ 0 (W.drewN (1 + q4)) HB2.out (fun j v hj => by rw [Nat.zero_add]; simpa using hj)
    have hXw : Below w.heap.size w X := by
      rw [hX]
      exact (dv_below HS.out.2.2.2.1 HG.out HW.out (by have := HR3.out; omega)).trans (Lib.below_setCells_w (Nat.le_refl _) _ _ _)
    simp only [World.setCells] at hX
    rw [← hX]
    have HX := Lib.hid hXw
    clear hX hXw c0 f0 c1 f1 c2 f2 c3 f3 c4 f4 c5 f5 c6 f6 c7 f7 c8 f8 c9 f9 c10 f10
    have c0 : X.cell? ⟨w.heap.size, 0, none⟩ = some (.int .i64 0) := (blk_cell hXb 0).trans rfl
    have c1 : X.cell? ⟨w.heap.size, 1, none⟩ = some (.bool false) := (blk_cell hXb 1).trans rfl
    have c2 : X.cell? ⟨w.heap.size, 2, none⟩ = some (.int .i64 0) := (blk_cell hXb 2).trans rfl
    have c3 : X.cell? ⟨w.heap.size, 3, none⟩ = some (.int .u64 0) := (blk_cell hXb 3).trans rfl
    have c4 : X.cell? ⟨w.heap.size, 4, none⟩ = some (.int .u64 0) := (blk_cell hXb 4).trans rfl
    have c5 : X.cell? ⟨w.heap.size, 5, none⟩ = some (.string ⟨#[]⟩) := (blk_cell hXb 5).trans rfl
    have c6 : X.cell? ⟨w.heap.size, 6, none⟩ = some (.int .i64 0) := (blk_cell hXb 6).trans rfl
    have c7 : X.cell? ⟨w.heap.size, 7, none⟩ = some (.bool false) := (blk_cell hXb 7).trans rfl
    have c8 : X.cell? ⟨w.heap.size, 8, none⟩ = some (.bool false) := (blk_cell hXb 8).trans rfl
    have c9 : X.cell? ⟨w.heap.size, 9, none⟩ = some (.int .i64 0) := (blk_cell hXb 9).trans rfl
    have c10 : X.cell? ⟨w.heap.size, 10, none⟩ = some (.int .i64 0) := (blk_cell hXb 10).trans rfl
    clear hXb
    refine bodyPost_ret (v := .tuple #[.agg #[(.int .i64 0), (.bool false), (.int .i64 0), (.int .u64 0), (.int .u64 0), (.string ⟨#[]⟩), (.int .i64 0), (.bool false), (.bool false), (.int .i64 0), (.int .i64 0)], .int .i64 (1 : Nat), .string ⟨#[]⟩]) (by simp [results, Tryd.results20, go_sem, c0, c1, c2, c3, c4, c5, c6, c7, c8, c9, c10]; try rfl) rfl ⟨rfl, HX.out⟩
set_option maxHeartbeats 8000000 in
set_option maxRecDepth 100000 in
theorem decVal_0_t (B : Nat) (pe pl : Addr) (t : ByteArray) (w : World) (ht : t.size ≤ 4294967296) (he : Env B pe pl w) (hB : B ≤ w.heap.size) (hR : t.data.toList[0]? = some 1) :
    Calls Tryd.prog 20 #[.int .i64 0, .string t] w fun e w' => e = .returned (.tuple #[.agg #[(.int .i64 0), (.bool true), (.int .i64 0), (.int .u64 0), (.int .u64 0), (.string ⟨#[]⟩), (.int .i64 0), (.bool false), (.bool false), (.int .i64 0), (.int .i64 0)], .int .i64 (1 : Nat), .string ⟨#[]⟩]) ∧ Below w.heap.size w w' := by
  have kc := conv_bytes
  have HT := Lib.hid (And.intro ht (And.intro he hB))
  have HY := Lib.hid hR
  clear ht he hB hR
  go_enter Tryd.func20, Tryd.ntmps20
  go_wp2_with (first
    | (go_at_call 45; go_loud (refine (newRd_any (w.alloc (.cells (zv 0) 26)) (w.heap.size + 1) (World.size_alloc ..) t HT.out.1).mono ?_; rintro e_ w1 ⟨r, rfl, hr1, hr2, hr3⟩; obtain ⟨hs1, hs2, hs3, hs4⟩ := dv_start (b := 0) HT.out.2.2 HT.out.2.1 hr2 hr3; have y0 : w1.cell? ⟨w.heap.size, 0, none⟩ = some (.int .i64 0) := (blk_cell hs1 0).trans rfl; have g0 : w1.frozen? ⟨w.heap.size, 0, none⟩ = false := blk_frozen hs1 0; have HS := Lib.hid (And.intro hr1 (And.intro hs1 (And.intro hs2 (And.intro hs3 hs4)))); have HR3 := Lib.hid hr3; clear hr1 hr2 hr3 hs1 hs2 hs3 hs4))
    | (go_at_call 46; go_loud (refine (decBool_1 r (w.heap.size + 1) t.data.toList 0 1 _ ?rd HY.out rfl).mono ?_; (case rd => exact HS.out.1.set _ _ (by have := HR3.out; show w.heap.size ≠ r; omega) (by show w.heap.size ≠ w.heap.size + 1; omega)); rintro e_ w2 ⟨rfl, hg, hrd⟩; have hb2 : w2.heap[w.heap.size]? = some (.cells (zv 0) 26 (0, 0)) := (hg.block _ (by have := blk_lt HS.out.2.1; simpa [World.setCell] using this) (by have := HR3.out; intro e; cases e; omega)).trans ((Lib.heap_setCell_same (i := 0) HS.out.2.1 (.int .i64 0)).trans rfl); have c0 : w2.cell? ⟨w.heap.size, 0, none⟩ = some (.int .i64 0) := (blk_cell hb2 0).trans rfl; have f0 : w2.frozen? ⟨w.heap.size, 0, none⟩ = false := blk_frozen hb2 0; have c1 : w2.cell? ⟨w.heap.size, 1, none⟩ = some (.bool false) := (blk_cell hb2 1).trans rfl; have f1 : w2.frozen? ⟨w.heap.size, 1, none⟩ = false := blk_frozen hb2 1; have c2 : w2.cell? ⟨w.heap.size, 2, none⟩ = some (.int .i64 0) := (blk_cell hb2 2).trans rfl; have f2 : w2.frozen? ⟨w.heap.size, 2, none⟩ = false := blk_frozen hb2 2; have c3 : w2.cell? ⟨w.heap.size, 3, none⟩ = some (.int .u64 0) := (blk_cell hb2 3).trans rfl; have f3 : w2.frozen? ⟨w.heap.size, 3, none⟩ = false := blk_frozen hb2 3; have c4 : w2.cell? ⟨w.heap.size, 4, none⟩ = some (.int .u64 0) := (blk_cell hb2 4).trans rfl; have f4 : w2.frozen? ⟨w.heap.size, 4, none⟩ = false := blk_frozen hb2 4; have c5 : w2.cell? ⟨w.heap.size, 5, none⟩ = some (.string ⟨#[]⟩) := (blk_cell hb2 5).trans rfl; have f5 : w2.frozen? ⟨w.heap.size, 5, none⟩ = false := blk_frozen hb2 5; have c6 : w2.cell? ⟨w.heap.size, 6, none⟩ = some (.int .i64 0) := (blk_cell hb2 6).trans rfl; have f6 : w2.frozen? ⟨w.heap.size, 6, none⟩ = false := blk_frozen hb2 6; have c7 : w2.cell? ⟨w.heap.size, 7, none⟩ = some (.bool false) := (blk_cell hb2 7).trans rfl; have f7 : w2.frozen? ⟨w.heap.size, 7, none⟩ = false := blk_frozen hb2 7; have c8 : w2.cell? ⟨w.heap.size, 8, none⟩ = some (.bool false) := (blk_cell hb2 8).trans rfl; have f8 : w2.frozen? ⟨w.heap.size, 8, none⟩ = false := blk_frozen hb2 8; have c9 : w2.cell? ⟨w.heap.size, 9, none⟩ = some (.int .i64 0) := (blk_cell hb2 9).trans rfl; have f9 : w2.frozen? ⟨w.heap.size, 9, none⟩ = false := blk_frozen hb2 9; have c10 : w2.cell? ⟨w.heap.size, 10, none⟩ = some (.int .i64 0) := (blk_cell hb2 10).trans rfl; have f10 : w2.frozen? ⟨w.heap.size, 10, none⟩ = false := blk_frozen hb2 10; rw [Nat.zero_add] at hrd; have HB0 := Lib.hid hb2; have HG := Lib.hid hg; have HD := Lib.hid hrd; clear hg hrd hb2)))
  obtain ⟨W, hW⟩ : ∃ W, W = w2.setCell ⟨w.heap.size, 1, none⟩ (.bool true) := ⟨_, rfl⟩
  have HB2 := Lib.hid (show W.heap[w.heap.size]? = some (.cells #[(.int .i64 0), (.bool true), (.int .i64 0), (.int .u64 0), (.int .u64 0), (.string ⟨#[]⟩), (.int .i64 0), (.bool false), (.bool false), (.int .i64 0), (.int .i64 0)] 26 (0, 0)) by
    rw [hW]; exact (Lib.heap_setCell_same (i := 1) HB0.out (.bool true)).trans rfl)
  have HD2 := Lib.hid (show Rd r (w.heap.size + 1) t.data.toList 1 W by
    rw [hW]; exact HD.out.set ⟨w.heap.size, 1, none⟩ _ (by have := HR3.out; show w.heap.size ≠ r; omega) (by show w.heap.size ≠ w.heap.size + 1; omega))
  rw [← hW]
  have HW := Lib.hid hW
  clear hW c0 f0 c1 f1 c2 f2 c3 f3 c4 f4 c5 f5 c6 f6 c7 f7 c8 f8 c9 f9 c10 f10
  have c0 : W.cell? ⟨w.heap.size, 0, none⟩ = some (.int .i64 0) := (blk_cell HB2.out 0).trans rfl
  have f0 : W.frozen? ⟨w.heap.size, 0, none⟩ = false := blk_frozen HB2.out 0
  have c1 : W.cell? ⟨w.heap.size, 1, none⟩ = some (.bool true) := (blk_cell HB2.out 1).trans rfl
  have f1 : W.frozen? ⟨w.heap.size, 1, none⟩ = false := blk_frozen HB2.out 1
  have c2 : W.cell? ⟨w.heap.size, 2, none⟩ = some (.int .i64 0) := (blk_cell HB2.out 2).trans rfl
  have f2 : W.frozen? ⟨w.heap.size, 2, none⟩ = false := blk_frozen HB2.out 2
  have c3 : W.cell? ⟨w.heap.size, 3, none⟩ = some (.int .u64 0) := (blk_cell HB2.out 3).trans rfl
  have f3 : W.frozen? ⟨w.heap.size, 3, none⟩ = false := blk_frozen HB2.out 3
  have c4 : W.cell? ⟨w.heap.size, 4, none⟩ = some (.int .u64 0) := (blk_cell HB2.out 4).trans rfl
  have f4 : W.frozen? ⟨w.heap.size, 4, none⟩ = false := blk_frozen HB2.out 4
  have c5 : W.cell? ⟨w.heap.size, 5, none⟩ = some (.string ⟨#[]⟩) := (blk_cell HB2.out 5).trans rfl
  have f5 : W.frozen? ⟨w.heap.size, 5, none⟩ = false := blk_frozen HB2.out 5
  have c6 : W.cell? ⟨w.heap.size, 6, none⟩ = some (.int .i64 0) := (blk_cell HB2.out 6).trans rfl
  have f6 : W.frozen? ⟨w.heap.size, 6, none⟩ = false := blk_frozen HB2.out 6
  have c7 : W.cell? ⟨w.heap.size, 7, none⟩ = some (.bool false) := (blk_cell HB2.out 7).trans rfl
  have f7 : W.frozen? ⟨w.heap.size, 7, none⟩ = false := blk_frozen HB2.out 7
  have c8 : W.cell? ⟨w.heap.size, 8, none⟩ = some (.bool false) := (blk_cell HB2.out 8).trans rfl
  have f8 : W.frozen? ⟨w.heap.size, 8, none⟩ = false := blk_frozen HB2.out 8
  have c9 : W.cell? ⟨w.heap.size, 9, none⟩ = some (.int .i64 0) := (blk_cell HB2.out 9).trans rfl
  have f9 : W.frozen? ⟨w.heap.size, 9, none⟩ = false := blk_frozen HB2.out 9
  have c10 : W.cell? ⟨w.heap.size, 10, none⟩ = some (.int .i64 0) := (blk_cell HB2.out 10).trans rfl
  have f10 : W.frozen? ⟨w.heap.size, 10, none⟩ = false := blk_frozen HB2.out 10
  have qs : (t.size : Int) - ((t.data.toList.length - 1 : Nat) : Int) = (1 : Nat) := by
    have h1 := HD2.out.le
    have h2 : t.data.toList.length = t.size := by rw [Array.length_toList]; rfl
    omega
  have qs2 : IntKind.i64.wrap ((1 : Nat) : Int) = (1 : Nat) := IntWalk.i64_in _ (by have := HD2.out.le; have := HD2.out.len; omega)
  obtain ⟨L, hL⟩ : ∃ L, Hid (t.data.toList.length - 1 = L) := ⟨_, Lib.hid rfl⟩
  rw [hL.out] at qs
  go_region_with (first | (go_at_call 62; refine (len_any r (w.heap.size + 1) t.data.toList 1 _ ?rd).mono ?_; (case rd => exact HD2.out.drewN 1); rw [hL.out]; rintro e_ w4 ⟨rfl, q4, rfl⟩) | (go_at_call 63; refine (word_nil _).mono ?_; rintro e_ w5 ⟨rfl, rfl⟩))
  all_goals
    refine (by assumption : ∀ (a : Act) (w : World), Code.wp _ Code.ret _ a w → _) _ _ ?_
    go_wp2
    obtain ⟨X, hX⟩ : ∃ X, X = (W.drewN (1 + q4)).setCells w.heap.size 0 [(.int .i64 0), (.bool true), (.int .i64 0), (.int .u64 0), (.int .u64 0), (.string ⟨#[]⟩), (.int .i64 0), (.bool false), (.bool false), (.int .i64 0), (.int .i64 0)] := ⟨_, rfl⟩
    have hXb : X.heap[w.heap.size]? = some (.cells #[(.int .i64 0), (.bool true), (.int .i64 0), (.int .u64 0), (.int .u64 0), (.string ⟨#[]⟩), (.int .i64 0), (.bool false), (.bool false), (.int .i64 0), (.int .i64 0)] 26 (0, 0)) := by
      rw [hX]; exact setCells_self _ _ _ _ _ 0 (W.drewN (1 + q4)) HB2.out (fun j v hj => by rw [Nat.zero_add]; simpa using hj)
    have hXw : Below w.heap.size w X := by
      rw [hX]
      exact (dv_below HS.out.2.2.2.1 HG.out HW.out (by have := HR3.out; omega)).trans (Lib.below_setCells_w (Nat.le_refl _) _ _ _)
    simp only [World.setCells] at hX
    rw [← hX]
    have HX := Lib.hid hXw
    clear hX hXw c0 f0 c1 f1 c2 f2 c3 f3 c4 f4 c5 f5 c6 f6 c7 f7 c8 f8 c9 f9 c10 f10
    have c0 : X.cell? ⟨w.heap.size, 0, none⟩ = some (.int .i64 0) := (blk_cell hXb 0).trans rfl
    have c1 : X.cell? ⟨w.heap.size, 1, none⟩ = some (.bool true) := (blk_cell hXb 1).trans rfl
    have c2 : X.cell? ⟨w.heap.size, 2, none⟩ = some (.int .i64 0) := (blk_cell hXb 2).trans rfl
    have c3 : X.cell? ⟨w.heap.size, 3, none⟩ = some (.int .u64 0) := (blk_cell hXb 3).trans rfl
    have c4 : X.cell? ⟨w.heap.size, 4, none⟩ = some (.int .u64 0) := (blk_cell hXb 4).trans rfl
    have c5 : X.cell? ⟨w.heap.size, 5, none⟩ = some (.string ⟨#[]⟩) := (blk_cell hXb 5).trans rfl
    have c6 : X.cell? ⟨w.heap.size, 6, none⟩ = some (.int .i64 0) := (blk_cell hXb 6).trans rfl
    have c7 : X.cell? ⟨w.heap.size, 7, none⟩ = some (.bool false) := (blk_cell hXb 7).trans rfl
    have c8 : X.cell? ⟨w.heap.size, 8, none⟩ = some (.bool false) := (blk_cell hXb 8).trans rfl
    have c9 : X.cell? ⟨w.heap.size, 9, none⟩ = some (.int .i64 0) := (blk_cell hXb 9).trans rfl
    have c10 : X.cell? ⟨w.heap.size, 10, none⟩ = some (.int .i64 0) := (blk_cell hXb 10).trans rfl
    clear hXb
    refine bodyPost_ret (v := .tuple #[.agg #[(.int .i64 0), (.bool true), (.int .i64 0), (.int .u64 0), (.int .u64 0), (.string ⟨#[]⟩), (.int .i64 0), (.bool false), (.bool false), (.int .i64 0), (.int .i64 0)], .int .i64 (1 : Nat), .string ⟨#[]⟩]) (by simp [results, Tryd.results20, go_sem, c0, c1, c2, c3, c4, c5, c6, c7, c8, c9, c10]; try rfl) rfl ⟨rfl, HX.out⟩
set_option maxHeartbeats 8000000 in
set_option maxRecDepth 100000 in
theorem decVal_0_bad (B : Nat) (pe pl : Addr) (t : ByteArray) (w : World) (ht : t.size ≤ 4294967296) (he : Env B pe pl w) (hB : B ≤ w.heap.size) (x : UInt8) (hR : t.data.toList[0]? = some x ∧ x ≠ 0 ∧ x ≠ 1) :
    Calls Tryd.prog 20 #[.int .i64 0, .string t] w fun e w' => ∃ (n : Nat) (s : ByteArray), e = .returned (.tuple #[.agg #[(.int .i64 0), (.bool false), (.int .i64 0), (.int .u64 0), (.int .u64 0), (.string ⟨#[]⟩), (.int .i64 0), (.bool false), (.bool false), (.int .i64 0), (.int .i64 0)], .int .i64 n, .string s]) ∧ n ≤ t.size ∧ s.data.toList ≠ [] ∧ Below w.heap.size w w' := by
  have kc := conv_bytes
  have HT := Lib.hid (And.intro ht (And.intro he hB))
  have HY := Lib.hid hR
  clear ht he hB hR
  go_enter Tryd.func20, Tryd.ntmps20
  go_wp2_with (first
    | (go_at_call 45; go_loud (refine (newRd_any (w.alloc (.cells (zv 0) 26)) (w.heap.size + 1) (World.size_alloc ..) t HT.out.1).mono ?_; rintro e_ w1 ⟨r, rfl, hr1, hr2, hr3⟩; obtain ⟨hs1, hs2, hs3, hs4⟩ := dv_start (b := 0) HT.out.2.2 HT.out.2.1 hr2 hr3; have y0 : w1.cell? ⟨w.heap.size, 0, none⟩ = some (.int .i64 0) := (blk_cell hs1 0).trans rfl; have g0 : w1.frozen? ⟨w.heap.size, 0, none⟩ = false := blk_frozen hs1 0; have HS := Lib.hid (And.intro hr1 (And.intro hs1 (And.intro hs2 (And.intro hs3 hs4)))); have HR3 := Lib.hid hr3; clear hr1 hr2 hr3 hs1 hs2 hs3 hs4))
    | (go_at_call 46; go_loud (refine (decBool_bad r (w.heap.size + 1) t.data.toList 0 x _ ?rd HY.out.1 HY.out.2.1 HY.out.2.2).mono ?_; (case rd => exact HS.out.1.set _ _ (by have := HR3.out; show w.heap.size ≠ r; omega) (by show w.heap.size ≠ w.heap.size + 1; omega)); rintro e_ w2 ⟨ev, rfl, hg, hev, i', hrd⟩; obtain ⟨ea, es, rfl, hea, hes⟩ := hev; have HEA := Lib.hid (And.intro hea hes); have hb2 : w2.heap[w.heap.size]? = some (.cells (zv 0) 26 (0, 0)) := (hg.block _ (by have := blk_lt HS.out.2.1; simpa [World.setCell] using this) (by have := HR3.out; intro e; cases e; omega)).trans ((Lib.heap_setCell_same (i := 0) HS.out.2.1 (.int .i64 0)).trans rfl); have c0 : w2.cell? ⟨w.heap.size, 0, none⟩ = some (.int .i64 0) := (blk_cell hb2 0).trans rfl; have f0 : w2.frozen? ⟨w.heap.size, 0, none⟩ = false := blk_frozen hb2 0; have c1 : w2.cell? ⟨w.heap.size, 1, none⟩ = some (.bool false) := (blk_cell hb2 1).trans rfl; have f1 : w2.frozen? ⟨w.heap.size, 1, none⟩ = false := blk_frozen hb2 1; have c2 : w2.cell? ⟨w.heap.size, 2, none⟩ = some (.int .i64 0) := (blk_cell hb2 2).trans rfl; have f2 : w2.frozen? ⟨w.heap.size, 2, none⟩ = false := blk_frozen hb2 2; have c3 : w2.cell? ⟨w.heap.size, 3, none⟩ = some (.int .u64 0) := (blk_cell hb2 3).trans rfl; have f3 : w2.frozen? ⟨w.heap.size, 3, none⟩ = false := blk_frozen hb2 3; have c4 : w2.cell? ⟨w.heap.size, 4, none⟩ = some (.int .u64 0) := (blk_cell hb2 4).trans rfl; have f4 : w2.frozen? ⟨w.heap.size, 4, none⟩ = false := blk_frozen hb2 4; have c5 : w2.cell? ⟨w.heap.size, 5, none⟩ = some (.string ⟨#[]⟩) := (blk_cell hb2 5).trans rfl; have f5 : w2.frozen? ⟨w.heap.size, 5, none⟩ = false := blk_frozen hb2 5; have c6 : w2.cell? ⟨w.heap.size, 6, none⟩ = some (.int .i64 0) := (blk_cell hb2 6).trans rfl; have f6 : w2.frozen? ⟨w.heap.size, 6, none⟩ = false := blk_frozen hb2 6; have c7 : w2.cell? ⟨w.heap.size, 7, none⟩ = some (.bool false) := (blk_cell hb2 7).trans rfl; have f7 : w2.frozen? ⟨w.heap.size, 7, none⟩ = false := blk_frozen hb2 7; have c8 : w2.cell? ⟨w.heap.size, 8, none⟩ = some (.bool false) := (blk_cell hb2 8).trans rfl; have f8 : w2.frozen? ⟨w.heap.size, 8, none⟩ = false := blk_frozen hb2 8; have c9 : w2.cell? ⟨w.heap.size, 9, none⟩ = some (.int .i64 0) := (blk_cell hb2 9).trans rfl; have f9 : w2.frozen? ⟨w.heap.size, 9, none⟩ = false := blk_frozen hb2 9; have c10 : w2.cell? ⟨w.heap.size, 10, none⟩ = some (.int .i64 0) := (blk_cell hb2 10).trans rfl; have f10 : w2.frozen? ⟨w.heap.size, 10, none⟩ = false := blk_frozen hb2 10; have HB0 := Lib.hid hb2; have HG := Lib.hid hg; have HD := Lib.hid hrd; clear hea hes hg hrd hb2)))
  obtain ⟨W, hW⟩ : ∃ W, W = w2.setCell ⟨w.heap.size, 1, none⟩ (.bool false) := ⟨_, rfl⟩
  have HB2 := Lib.hid (show W.heap[w.heap.size]? = some (.cells #[(.int .i64 0), (.bool false), (.int .i64 0), (.int .u64 0), (.int .u64 0), (.string ⟨#[]⟩), (.int .i64 0), (.bool false), (.bool false), (.int .i64 0), (.int .i64 0)] 26 (0, 0)) by
    rw [hW]; exact (Lib.heap_setCell_same (i := 1) HB0.out (.bool false)).trans rfl)
  have HD2 := Lib.hid (show Rd r (w.heap.size + 1) t.data.toList i' W by
    rw [hW]; exact HD.out.set ⟨w.heap.size, 1, none⟩ _ (by have := HR3.out; show w.heap.size ≠ r; omega) (by show w.heap.size ≠ w.heap.size + 1; omega))
  have HEW := Lib.hid (show W.cell? ea = some (.string es) by
    rw [hW]; exact (World.cell?_of_block (a := ea) (same_set HB0.out (i := 1) (by rfl) _)).trans HEA.out.1)
  rw [← hW]
  have HW := Lib.hid hW
  clear hW c0 f0 c1 f1 c2 f2 c3 f3 c4 f4 c5 f5 c6 f6 c7 f7 c8 f8 c9 f9 c10 f10
  have c0 : W.cell? ⟨w.heap.size, 0, none⟩ = some (.int .i64 0) := (blk_cell HB2.out 0).trans rfl
  have f0 : W.frozen? ⟨w.heap.size, 0, none⟩ = false := blk_frozen HB2.out 0
  have c1 : W.cell? ⟨w.heap.size, 1, none⟩ = some (.bool false) := (blk_cell HB2.out 1).trans rfl
  have f1 : W.frozen? ⟨w.heap.size, 1, none⟩ = false := blk_frozen HB2.out 1
  have c2 : W.cell? ⟨w.heap.size, 2, none⟩ = some (.int .i64 0) := (blk_cell HB2.out 2).trans rfl
  have f2 : W.frozen? ⟨w.heap.size, 2, none⟩ = false := blk_frozen HB2.out 2
  have c3 : W.cell? ⟨w.heap.size, 3, none⟩ = some (.int .u64 0) := (blk_cell HB2.out 3).trans rfl
  have f3 : W.frozen? ⟨w.heap.size, 3, none⟩ = false := blk_frozen HB2.out 3
  have c4 : W.cell? ⟨w.heap.size, 4, none⟩ = some (.int .u64 0) := (blk_cell HB2.out 4).trans rfl
  have f4 : W.frozen? ⟨w.heap.size, 4, none⟩ = false := blk_frozen HB2.out 4
  have c5 : W.cell? ⟨w.heap.size, 5, none⟩ = some (.string ⟨#[]⟩) := (blk_cell HB2.out 5).trans rfl
  have f5 : W.frozen? ⟨w.heap.size, 5, none⟩ = false := blk_frozen HB2.out 5
  have c6 : W.cell? ⟨w.heap.size, 6, none⟩ = some (.int .i64 0) := (blk_cell HB2.out 6).trans rfl
  have f6 : W.frozen? ⟨w.heap.size, 6, none⟩ = false := blk_frozen HB2.out 6
  have c7 : W.cell? ⟨w.heap.size, 7, none⟩ = some (.bool false) := (blk_cell HB2.out 7).trans rfl
  have f7 : W.frozen? ⟨w.heap.size, 7, none⟩ = false := blk_frozen HB2.out 7
  have c8 : W.cell? ⟨w.heap.size, 8, none⟩ = some (.bool false) := (blk_cell HB2.out 8).trans rfl
  have f8 : W.frozen? ⟨w.heap.size, 8, none⟩ = false := blk_frozen HB2.out 8
  have c9 : W.cell? ⟨w.heap.size, 9, none⟩ = some (.int .i64 0) := (blk_cell HB2.out 9).trans rfl
  have f9 : W.frozen? ⟨w.heap.size, 9, none⟩ = false := blk_frozen HB2.out 9
  have c10 : W.cell? ⟨w.heap.size, 10, none⟩ = some (.int .i64 0) := (blk_cell HB2.out 10).trans rfl
  have f10 : W.frozen? ⟨w.heap.size, 10, none⟩ = false := blk_frozen HB2.out 10
  have qs : (t.size : Int) - ((t.data.toList.length - i' : Nat) : Int) = (i' : Nat) := by
    have h1 := HD2.out.le
    have h2 : t.data.toList.length = t.size := by rw [Array.length_toList]; rfl
    omega
  have qs2 : IntKind.i64.wrap ((i' : Nat) : Int) = (i' : Nat) := IntWalk.i64_in _ (by have := HD2.out.le; have := HD2.out.len; omega)
  obtain ⟨L, hL⟩ : ∃ L, Hid (t.data.toList.length - i' = L) := ⟨_, Lib.hid rfl⟩
  rw [hL.out] at qs
  go_region_with (first | (go_at_call 62; refine (len_any r (w.heap.size + 1) t.data.toList i' _ ?rd).mono ?_; (case rd => exact HD2.out.drewN 1); rw [hL.out]; rintro e_ w4 ⟨rfl, q4, rfl⟩) | (go_at_call 63; refine (word_err ea es _ ?wd).mono ?_; (case wd => exact HEW.out); rintro e_ w5 ⟨rfl, rfl⟩))
  all_goals
    refine (by assumption : ∀ (a : Act) (w : World), Code.wp _ Code.ret _ a w → _) _ _ ?_
    go_wp2
    obtain ⟨X, hX⟩ : ∃ X, X = (W.drewN (1 + q4)).setCells w.heap.size 0 [(.int .i64 0), (.bool false), (.int .i64 0), (.int .u64 0), (.int .u64 0), (.string ⟨#[]⟩), (.int .i64 0), (.bool false), (.bool false), (.int .i64 0), (.int .i64 0)] := ⟨_, rfl⟩
    have hXb : X.heap[w.heap.size]? = some (.cells #[(.int .i64 0), (.bool false), (.int .i64 0), (.int .u64 0), (.int .u64 0), (.string ⟨#[]⟩), (.int .i64 0), (.bool false), (.bool false), (.int .i64 0), (.int .i64 0)] 26 (0, 0)) := by
      rw [hX]; exact setCells_self _ _ _ _ _ 0 (W.drewN (1 + q4)) HB2.out (fun j v hj => by rw [Nat.zero_add]; simpa using hj)
    have hXw : Below w.heap.size w X := by
      rw [hX]
      exact (dv_below HS.out.2.2.2.1 HG.out HW.out (by have := HR3.out; omega)).trans (Lib.below_setCells_w (Nat.le_refl _) _ _ _)
    simp only [World.setCells] at hX
    rw [← hX]
    have HX := Lib.hid hXw
    clear hX hXw c0 f0 c1 f1 c2 f2 c3 f3 c4 f4 c5 f5 c6 f6 c7 f7 c8 f8 c9 f9 c10 f10
    have c0 : X.cell? ⟨w.heap.size, 0, none⟩ = some (.int .i64 0) := (blk_cell hXb 0).trans rfl
    have c1 : X.cell? ⟨w.heap.size, 1, none⟩ = some (.bool false) := (blk_cell hXb 1).trans rfl
    have c2 : X.cell? ⟨w.heap.size, 2, none⟩ = some (.int .i64 0) := (blk_cell hXb 2).trans rfl
    have c3 : X.cell? ⟨w.heap.size, 3, none⟩ = some (.int .u64 0) := (blk_cell hXb 3).trans rfl
    have c4 : X.cell? ⟨w.heap.size, 4, none⟩ = some (.int .u64 0) := (blk_cell hXb 4).trans rfl
    have c5 : X.cell? ⟨w.heap.size, 5, none⟩ = some (.string ⟨#[]⟩) := (blk_cell hXb 5).trans rfl
    have c6 : X.cell? ⟨w.heap.size, 6, none⟩ = some (.int .i64 0) := (blk_cell hXb 6).trans rfl
    have c7 : X.cell? ⟨w.heap.size, 7, none⟩ = some (.bool false) := (blk_cell hXb 7).trans rfl
    have c8 : X.cell? ⟨w.heap.size, 8, none⟩ = some (.bool false) := (blk_cell hXb 8).trans rfl
    have c9 : X.cell? ⟨w.heap.size, 9, none⟩ = some (.int .i64 0) := (blk_cell hXb 9).trans rfl
    have c10 : X.cell? ⟨w.heap.size, 10, none⟩ = some (.int .i64 0) := (blk_cell hXb 10).trans rfl
    clear hXb
    refine bodyPost_ret (v := .tuple #[.agg #[(.int .i64 0), (.bool false), (.int .i64 0), (.int .u64 0), (.int .u64 0), (.string ⟨#[]⟩), (.int .i64 0), (.bool false), (.bool false), (.int .i64 0), (.int .i64 0)], .int .i64 (i' : Nat), .string es]) (by simp [results, Tryd.results20, go_sem, c0, c1, c2, c3, c4, c5, c6, c7, c8, c9, c10]; try rfl) rfl ⟨i', es, rfl, by have := HD2.out.le; have h2 : t.data.toList.length = t.size := (by rw [Array.length_toList]; rfl); omega, HEA.out.2, HX.out⟩
set_option maxHeartbeats 8000000 in
set_option maxRecDepth 100000 in
theorem decVal_0_eof (B : Nat) (pe pl : Addr) (t : ByteArray) (w : World) (ht : t.size ≤ 4294967296) (he : Env B pe pl w) (hB : B ≤ w.heap.size) (hR : ¬ 0 + 1 ≤ t.data.toList.length) :
    Calls Tryd.prog 20 #[.int .i64 0, .string t] w fun e w' => ∃ (n : Nat) (s : ByteArray), e = .returned (.tuple #[.agg #[(.int .i64 0), (.bool false), (.int .i64 0), (.int .u64 0), (.int .u64 0), (.string ⟨#[]⟩), (.int .i64 0), (.bool false), (.bool false), (.int .i64 0), (.int .i64 0)], .int .i64 n, .string s]) ∧ n ≤ t.size ∧ s.data.toList ≠ [] ∧ Below w.heap.size w w' := by
  have kc := conv_bytes
  have HT := Lib.hid (And.intro ht (And.intro he hB))
  have HY := Lib.hid hR
  clear ht he hB hR
  go_enter Tryd.func20, Tryd.ntmps20
  go_wp2_with (first
    | (go_at_call 45; go_loud (refine (newRd_any (w.alloc (.cells (zv 0) 26)) (w.heap.size + 1) (World.size_alloc ..) t HT.out.1).mono ?_; rintro e_ w1 ⟨r, rfl, hr1, hr2, hr3⟩; obtain ⟨hs1, hs2, hs3, hs4⟩ := dv_start (b := 0) HT.out.2.2 HT.out.2.1 hr2 hr3; have y0 : w1.cell? ⟨w.heap.size, 0, none⟩ = some (.int .i64 0) := (blk_cell hs1 0).trans rfl; have g0 : w1.frozen? ⟨w.heap.size, 0, none⟩ = false := blk_frozen hs1 0; have HS := Lib.hid (And.intro hr1 (And.intro hs1 (And.intro hs2 (And.intro hs3 hs4)))); have HR3 := Lib.hid hr3; clear hr1 hr2 hr3 hs1 hs2 hs3 hs4))
    | (go_at_call 46; go_loud (refine (decBool_eof B pe pl r (w.heap.size + 1) t.data.toList 0 _ ?rd ?en HS.out.2.2.2.2 HY.out).mono ?_; (case rd => exact HS.out.1.set _ _ (by have := HR3.out; show w.heap.size ≠ r; omega) (by show w.heap.size ≠ w.heap.size + 1; omega)); (case en => exact HS.out.2.2.1.below ((Below.refl _ _).setCell (by exact HT.out.2.2) _)); rintro e_ w2 ⟨ev, rfl, hg, hev, i', hrd⟩; obtain ⟨ea, es, rfl, hea, hes⟩ := hev; have HEA := Lib.hid (And.intro hea hes); have hb2 : w2.heap[w.heap.size]? = some (.cells (zv 0) 26 (0, 0)) := (hg.block _ (by have := blk_lt HS.out.2.1; simpa [World.setCell] using this) (by have := HR3.out; intro e; cases e; omega)).trans ((Lib.heap_setCell_same (i := 0) HS.out.2.1 (.int .i64 0)).trans rfl); have c0 : w2.cell? ⟨w.heap.size, 0, none⟩ = some (.int .i64 0) := (blk_cell hb2 0).trans rfl; have f0 : w2.frozen? ⟨w.heap.size, 0, none⟩ = false := blk_frozen hb2 0; have c1 : w2.cell? ⟨w.heap.size, 1, none⟩ = some (.bool false) := (blk_cell hb2 1).trans rfl; have f1 : w2.frozen? ⟨w.heap.size, 1, none⟩ = false := blk_frozen hb2 1; have c2 : w2.cell? ⟨w.heap.size, 2, none⟩ = some (.int .i64 0) := (blk_cell hb2 2).trans rfl; have f2 : w2.frozen? ⟨w.heap.size, 2, none⟩ = false := blk_frozen hb2 2; have c3 : w2.cell? ⟨w.heap.size, 3, none⟩ = some (.int .u64 0) := (blk_cell hb2 3).trans rfl; have f3 : w2.frozen? ⟨w.heap.size, 3, none⟩ = false := blk_frozen hb2 3; have c4 : w2.cell? ⟨w.heap.size, 4, none⟩ = some (.int .u64 0) := (blk_cell hb2 4).trans rfl; have f4 : w2.frozen? ⟨w.heap.size, 4, none⟩ = false := blk_frozen hb2 4; have c5 : w2.cell? ⟨w.heap.size, 5, none⟩ = some (.string ⟨#[]⟩) := (blk_cell hb2 5).trans rfl; have f5 : w2.frozen? ⟨w.heap.size, 5, none⟩ = false := blk_frozen hb2 5; have c6 : w2.cell? ⟨w.heap.size, 6, none⟩ = some (.int .i64 0) := (blk_cell hb2 6).trans rfl; have f6 : w2.frozen? ⟨w.heap.size, 6, none⟩ = false := blk_frozen hb2 6; have c7 : w2.cell? ⟨w.heap.size, 7, none⟩ = some (.bool false) := (blk_cell hb2 7).trans rfl; have f7 : w2.frozen? ⟨w.heap.size, 7, none⟩ = false := blk_frozen hb2 7; have c8 : w2.cell? ⟨w.heap.size, 8, none⟩ = some (.bool false) := (blk_cell hb2 8).trans rfl; have f8 : w2.frozen? ⟨w.heap.size, 8, none⟩ = false := blk_frozen hb2 8; have c9 : w2.cell? ⟨w.heap.size, 9, none⟩ = some (.int .i64 0) := (blk_cell hb2 9).trans rfl; have f9 : w2.frozen? ⟨w.heap.size, 9, none⟩ = false := blk_frozen hb2 9; have c10 : w2.cell? ⟨w.heap.size, 10, none⟩ = some (.int .i64 0) := (blk_cell hb2 10).trans rfl; have f10 : w2.frozen? ⟨w.heap.size, 10, none⟩ = false := blk_frozen hb2 10; have HB0 := Lib.hid hb2; have HG := Lib.hid hg; have HD := Lib.hid hrd; clear hea hes hg hrd hb2)))
  obtain ⟨W, hW⟩ : ∃ W, W = w2.setCell ⟨w.heap.size, 1, none⟩ (.bool false) := ⟨_, rfl⟩
  have HB2 := Lib.hid (show W.heap[w.heap.size]? = some (.cells #[(.int .i64 0), (.bool false), (.int .i64 0), (.int .u64 0), (.int .u64 0), (.string ⟨#[]⟩), (.int .i64 0), (.bool false), (.bool false), (.int .i64 0), (.int .i64 0)] 26 (0, 0)) by
    rw [hW]; exact (Lib.heap_setCell_same (i := 1) HB0.out (.bool false)).trans rfl)
  have HD2 := Lib.hid (show Rd r (w.heap.size + 1) t.data.toList i' W by
    rw [hW]; exact HD.out.set ⟨w.heap.size, 1, none⟩ _ (by have := HR3.out; show w.heap.size ≠ r; omega) (by show w.heap.size ≠ w.heap.size + 1; omega))
  have HEW := Lib.hid (show W.cell? ea = some (.string es) by
    rw [hW]; exact (World.cell?_of_block (a := ea) (same_set HB0.out (i := 1) (by rfl) _)).trans HEA.out.1)
  rw [← hW]
  have HW := Lib.hid hW
  clear hW c0 f0 c1 f1 c2 f2 c3 f3 c4 f4 c5 f5 c6 f6 c7 f7 c8 f8 c9 f9 c10 f10
  have c0 : W.cell? ⟨w.heap.size, 0, none⟩ = some (.int .i64 0) := (blk_cell HB2.out 0).trans rfl
  have f0 : W.frozen? ⟨w.heap.size, 0, none⟩ = false := blk_frozen HB2.out 0
  have c1 : W.cell? ⟨w.heap.size, 1, none⟩ = some (.bool false) := (blk_cell HB2.out 1).trans rfl
  have f1 : W.frozen? ⟨w.heap.size, 1, none⟩ = false := blk_frozen HB2.out 1
  have c2 : W.cell? ⟨w.heap.size, 2, none⟩ = some (.int .i64 0) := (blk_cell HB2.out 2).trans rfl
  have f2 : W.frozen? ⟨w.heap.size, 2, none⟩ = false := blk_frozen HB2.out 2
  have c3 : W.cell? ⟨w.heap.size, 3, none⟩ = some (.int .u64 0) := (blk_cell HB2.out 3).trans rfl
  have f3 : W.frozen? ⟨w.heap.size, 3, none⟩ = false := blk_frozen HB2.out 3
  have c4 : W.cell? ⟨w.heap.size, 4, none⟩ = some (.int .u64 0) := (blk_cell HB2.out 4).trans rfl
  have f4 : W.frozen? ⟨w.heap.size, 4, none⟩ = false := blk_frozen HB2.out 4
  have c5 : W.cell? ⟨w.heap.size, 5, none⟩ = some (.string ⟨#[]⟩) := (blk_cell HB2.out 5).trans rfl
  have f5 : W.frozen? ⟨w.heap.size, 5, none⟩ = false := blk_frozen HB2.out 5
  have c6 : W.cell? ⟨w.heap.size, 6, none⟩ = some (.int .i64 0) := (blk_cell HB2.out 6).trans rfl
  have f6 : W.frozen? ⟨w.heap.size, 6, none⟩ = false := blk_frozen HB2.out 6
  have c7 : W.cell? ⟨w.heap.size, 7, none⟩ = some (.bool false) := (blk_cell HB2.out 7).trans rfl
  have f7 : W.frozen? ⟨w.heap.size, 7, none⟩ = false := blk_frozen HB2.out 7
  have c8 : W.cell? ⟨w.heap.size, 8, none⟩ = some (.bool false) := (blk_cell HB2.out 8).trans rfl
  have f8 : W.frozen? ⟨w.heap.size, 8, none⟩ = false := blk_frozen HB2.out 8
  have c9 : W.cell? ⟨w.heap.size, 9, none⟩ = some (.int .i64 0) := (blk_cell HB2.out 9).trans rfl
  have f9 : W.frozen? ⟨w.heap.size, 9, none⟩ = false := blk_frozen HB2.out 9
  have c10 : W.cell? ⟨w.heap.size, 10, none⟩ = some (.int .i64 0) := (blk_cell HB2.out 10).trans rfl
  have f10 : W.frozen? ⟨w.heap.size, 10, none⟩ = false := blk_frozen HB2.out 10
  have qs : (t.size : Int) - ((t.data.toList.length - i' : Nat) : Int) = (i' : Nat) := by
    have h1 := HD2.out.le
    have h2 : t.data.toList.length = t.size := by rw [Array.length_toList]; rfl
    omega
  have qs2 : IntKind.i64.wrap ((i' : Nat) : Int) = (i' : Nat) := IntWalk.i64_in _ (by have := HD2.out.le; have := HD2.out.len; omega)
  obtain ⟨L, hL⟩ : ∃ L, Hid (t.data.toList.length - i' = L) := ⟨_, Lib.hid rfl⟩
  rw [hL.out] at qs
  go_region_with (first | (go_at_call 62; refine (len_any r (w.heap.size + 1) t.data.toList i' _ ?rd).mono ?_; (case rd => exact HD2.out.drewN 1); rw [hL.out]; rintro e_ w4 ⟨rfl, q4, rfl⟩) | (go_at_call 63; refine (word_err ea es _ ?wd).mono ?_; (case wd => exact HEW.out); rintro e_ w5 ⟨rfl, rfl⟩))
  all_goals
    refine (by assumption : ∀ (a : Act) (w : World), Code.wp _ Code.ret _ a w → _) _ _ ?_
    go_wp2
    obtain ⟨X, hX⟩ : ∃ X, X = (W.drewN (1 + q4)).setCells w.heap.size 0 [(.int .i64 0), (.bool false), (.int .i64 0), (.int .u64 0), (.int .u64 0), (.string ⟨#[]⟩), (.int .i64 0), (.bool false), (.bool false), (.int .i64 0), (.int .i64 0)] := ⟨_, rfl⟩
    have hXb : X.heap[w.heap.size]? = some (.cells #[(.int .i64 0), (.bool false), (.int .i64 0), (.int .u64 0), (.int .u64 0), (.string ⟨#[]⟩), (.int .i64 0), (.bool false), (.bool false), (.int .i64 0), (.int .i64 0)] 26 (0, 0)) := by
      rw [hX]; exact setCells_self _ _ _ _ _ 0 (W.drewN (1 + q4)) HB2.out (fun j v hj => by rw [Nat.zero_add]; simpa using hj)
    have hXw : Below w.heap.size w X := by
      rw [hX]
      exact (dv_below HS.out.2.2.2.1 HG.out HW.out (by have := HR3.out; omega)).trans (Lib.below_setCells_w (Nat.le_refl _) _ _ _)
    simp only [World.setCells] at hX
    rw [← hX]
    have HX := Lib.hid hXw
    clear hX hXw c0 f0 c1 f1 c2 f2 c3 f3 c4 f4 c5 f5 c6 f6 c7 f7 c8 f8 c9 f9 c10 f10
    have c0 : X.cell? ⟨w.heap.size, 0, none⟩ = some (.int .i64 0) := (blk_cell hXb 0).trans rfl
    have c1 : X.cell? ⟨w.heap.size, 1, none⟩ = some (.bool false) := (blk_cell hXb 1).trans rfl
    have c2 : X.cell? ⟨w.heap.size, 2, none⟩ = some (.int .i64 0) := (blk_cell hXb 2).trans rfl
    have c3 : X.cell? ⟨w.heap.size, 3, none⟩ = some (.int .u64 0) := (blk_cell hXb 3).trans rfl
    have c4 : X.cell? ⟨w.heap.size, 4, none⟩ = some (.int .u64 0) := (blk_cell hXb 4).trans rfl
    have c5 : X.cell? ⟨w.heap.size, 5, none⟩ = some (.string ⟨#[]⟩) := (blk_cell hXb 5).trans rfl
    have c6 : X.cell? ⟨w.heap.size, 6, none⟩ = some (.int .i64 0) := (blk_cell hXb 6).trans rfl
    have c7 : X.cell? ⟨w.heap.size, 7, none⟩ = some (.bool false) := (blk_cell hXb 7).trans rfl
    have c8 : X.cell? ⟨w.heap.size, 8, none⟩ = some (.bool false) := (blk_cell hXb 8).trans rfl
    have c9 : X.cell? ⟨w.heap.size, 9, none⟩ = some (.int .i64 0) := (blk_cell hXb 9).trans rfl
    have c10 : X.cell? ⟨w.heap.size, 10, none⟩ = some (.int .i64 0) := (blk_cell hXb 10).trans rfl
    clear hXb
    refine bodyPost_ret (v := .tuple #[.agg #[(.int .i64 0), (.bool false), (.int .i64 0), (.int .u64 0), (.int .u64 0), (.string ⟨#[]⟩), (.int .i64 0), (.bool false), (.bool false), (.int .i64 0), (.int .i64 0)], .int .i64 (i' : Nat), .string es]) (by simp [results, Tryd.results20, go_sem, c0, c1, c2, c3, c4, c5, c6, c7, c8, c9, c10]; try rfl) rfl ⟨i', es, rfl, by have := HD2.out.le; have h2 : t.data.toList.length = t.size := (by rw [Array.length_toList]; rfl); omega, HEA.out.2, HX.out⟩
end Go.Proofs.YtgdbeiadlgkedaaDoor

/- Contracts of the reference: numbers by sevens of bits, written and read. -/
namespace Go.Proofs.YtgdbeiadlgkedaaDoor
open Go.RowKit
set_option linter.unusedVariables false
set_option linter.unusedSimpArgs false

/-- 'string([]byte{x})'. -/
theorem conv1 (x : UInt8) (n : Nat) (hx : x.toNat = n) : ∀ W : World, (convert 29 9 (.slice (some ⟨W.heap.size, 0, none⟩) 1 1)).run Tryd.prog (W.alloc (.cells #[.int .u8 (n : Int)] 5)) = .ok (.string ⟨#[x]⟩) (W.alloc (.cells #[.int .u8 (n : Int)] 5)) := by
  intro W
  have := run_convert_bytes_back (P := Tryd.prog) (W.alloc (.cells #[.int .u8 (n : Int)] 5)) 29 9 5 ⟨W.heap.size, 0, none⟩ 1 [x] Tryd.underlying29 Tryd.underlying5 Tryd.underlying9 (fun j hj => by
    obtain rfl : j = 0 := by simpa using hj
    rw [Lib.addr_add]
    subst hx
    exact (blk_cell (heap_alloc_new W _) 0).trans rfl)
  exact this
theorem str_ext {s : ByteArray} {l : List UInt8} (h : s.data.toList = l) : s = ⟨l.toArray⟩ := by
  subst h
  cases s; simp
theorem data_append (s t : ByteArray) : (s ++ t).data.toList = s.data.toList ++ t.data.toList := by simp
theorem add1 (s : ByteArray) (x : UInt8) (h : s.data.toList.length ≤ 1000000) : ∀ W : World, (Op.stringOp .add s ⟨#[x]⟩).run Tryd.prog W = .ok (.string (s ++ ⟨#[x]⟩)) W := fun W =>
  run_string_add_sum W s ⟨#[x]⟩ (by rw [Array.length_toList] at h; show s.data.size + 1 ≤ _; omega)
theorem ret_str {s t : ByteArray} (h : s = t) : Ending.returned (.string s) = .returned (.string t) := by rw [h]
set_option maxHeartbeats 4000000 in
set_option maxRecDepth 100000 in
theorem codVarint_any (v : Nat) (w : World) (hv : v < 18446744073709551616) :
    Calls Tryd.prog 32 #[.int .u64 v] w fun e w' => e = .returned (.string ⟨(Lib.uvarint v).toArray⟩) ∧ Below w.heap.size w w' := by
  have HV := Lib.hid hv
  clear hv
  go_enter Tryd.func32, Tryd.ntmps32
  go_wp2
  go_loopg [0, 3] v (fun kq v0 v3 wr => ∃ (s : ByteArray), v0 = .int .u64 kq ∧ v3 = .string s ∧ Hid (s.data.toList ++ Lib.uvarint kq = Lib.uvarint v) ∧ Hid (Below w.heap.size w wr) ∧ Hid (kq < 18446744073709551616))
  case atStart => exact ⟨⟨#[]⟩, rfl, rfl, Lib.hid rfl, Lib.hid (Below.refl _ w), HV⟩
  case round =>
    obtain ⟨s, rfl, rfl, HS, HB, HU⟩ := hrel
    have hsl : s.data.toList.length ≤ 1000000 := by
      have h1 := congrArg List.length HS.out
      rw [List.length_append] at h1
      have := Lib.uvarint_length64 HV.out; omega
    by_cases h : gk < 128
    · have q1 : (gk : Int) % 256 = (gk : Int) := by omega
      have kc := conv1 gk.toUInt8 gk (u8_toNat (by omega))
      have HR := Lib.hid (show s ++ ⟨#[gk.toUInt8]⟩ = (⟨(Lib.uvarint v).toArray⟩ : ByteArray) from str_ext (by rw [data_append, ← HS.out, Lib.uvarint_small h]))
      have h1 : (gk : Int) < 128 := by omega
      have kadd := add1 s gk.toUInt8 hsl
      clear h hsl
      go_wp2
      go_ret
      exact ⟨ret_str HR.out, HB.out.alloc HB.out.size _⟩
    · obtain ⟨d, hd⟩ : ∃ d, Hid (gk % 128 + 128 = d) := ⟨_, Lib.hid rfl⟩
      obtain ⟨q, hq⟩ : ∃ q, Hid (gk / 128 = q) := ⟨_, Lib.hid rfl⟩
      obtain ⟨y, hy⟩ : ∃ y, Hid (gk % 256 = y) := ⟨_, Lib.hid rfl⟩
      have q1 : (gk : Int) % 256 = (y : Int) := by have := hy.out; omega
      have q3 : bits .or .u8 (y : Int) 128 = (d : Int) := by
        rw [Lib.u8_or128_any _ (by omega) (by have := hy.out; omega)]; have := hy.out; have := hd.out; omega
      have q2 : (gk : Int) / 128 = (q : Int) := by have := hq.out; omega
      have kc := conv1 d.toUInt8 d (u8_toNat (by have := hd.out; omega))
      have HR := Lib.hid (show (s ++ ⟨#[d.toUInt8]⟩ : ByteArray).data.toList ++ Lib.uvarint q = Lib.uvarint v by
        rw [data_append, ← HS.out, Lib.uvarint_big (x := gk) (by omega), ← hd.out, ← hq.out, List.append_assoc]; rfl)
      have HQ := Lib.hid (show q < gk ∧ q < 18446744073709551616 by have := hq.out; have := HU.out; omega)
      have h1 : 128 ≤ (gk : Int) := by omega
      have kadd := add1 s d.toUInt8 hsl
      clear h hsl
      go_wp2
      go_roundg q
      case measure => exact HQ.out.1
      case rel => exact ⟨_, rfl, rfl, HR, Lib.hid (HB.out.alloc HB.out.size _), Lib.hid HQ.out.2⟩
end Go.Proofs.YtgdbeiadlgkedaaDoor

/- The walk of the statement on bools. -/
namespace Go.Proofs.YtgdbeiadlgkedaaDoor
open Go.RowKit
set_option linter.unusedVariables false
set_option linter.unusedSimpArgs false

theorem ne_empty {s : ByteArray} (h : s.data.toList ≠ []) : s.toList.isEmpty = false := by
  rw [ByteArray.toList_eq]
  cases hl : s.data.toList with
  | nil => exact absurd hl h
  | cons => rfl
set_option maxHeartbeats 4000000 in
set_option maxRecDepth 100000 in
theorem bools_row (pe pl : Addr) (b : Int) (w : World) (hb : (Lit.int .u8 b).wf = true) (he : Env w.heap.size pe pl w) :
    Calls Tryd.prog 3 #[.int .u8 b] w fun e w' => e = .returned (.bool true) ∧ Below w.heap.size w w' := by
  obtain ⟨h0, h1⟩ := u8_bd hb
  obtain ⟨n, rfl⟩ := Int.eq_ofNat_of_zero_le h0
  obtain ⟨x, hx⟩ : ∃ x : UInt8, x.toNat = n := ⟨n.toUInt8, u8_toNat (by omega)⟩
  have kc := conv1 x n hx
  have he1 : ∀ o, Env w.heap.size pe pl (w.alloc o) := fun o => he.below ((Below.refl _ w).alloc (Nat.le_refl _) o)
  have HE := Lib.hid he
  by_cases hx0 : x = 0
  · subst hx0
    obtain rfl : n = 0 := hx.symm
    have kc : ∀ W : World, (convert 29 9 (.slice (some ⟨W.heap.size, 0, none⟩) 1 1)).run Tryd.prog (W.alloc (.cells #[.int .u8 0] 5)) = .ok (.string ⟨#[0]⟩) (W.alloc (.cells #[.int .u8 0] 5)) := fun W => conv1 0 0 rfl W
    show Calls Tryd.prog 3 #[.int .u8 0] w _
    have HC := Lib.hid (decVal_0_f w.heap.size pe pl ⟨#[0]⟩ (w.alloc (.cells #[.int .u8 0] 5)) (by decide) (he1 _) (by simp) rfl)
    clear he he1 hb h0 h1 hx
    go_enter Tryd.func3, Tryd.ntmps3
    go_wp2_with (first
      | (go_at_call 20; go_loud (refine HC.out.mono ?_; rintro e_ w2 ⟨rfl, hb2⟩; have HB := Lib.hid (((Below.refl _ w).alloc (Nat.le_refl _) _).trans (hb2.mono (by simp))); clear hb2))
      | (go_at_call 21; go_loud (refine (awake_any w.heap.size pe pl _ (HE.out.below (HB.out.alloc HB.out.size _)) (by have := HB.out.size; simp; omega)).mono ?_; rintro e_ w3 ⟨rfl, hb3⟩; have HB3 := Lib.hid ((HB.out.alloc HB.out.size _).trans (hb3.mono (by have := HB.out.size; simp; omega))); obtain ⟨hc_, hf_⟩ := (⟨fun o => hb3.cell (p := ⟨w2.heap.size, o, none⟩) (by simp), trivial⟩ : (∀ o, w3.cell? ⟨w2.heap.size, o, none⟩ = _) ∧ True); have x1 := (hc_ 1).trans ((blk_cell (heap_alloc_new w2 _) 1).trans rfl); clear hc_ hb3)))
    go_ret
    exact ⟨rfl, HB3.out⟩
  · by_cases hx1 : x = 1
    · subst hx1
      obtain rfl : n = 1 := hx.symm
      have kc : ∀ W : World, (convert 29 9 (.slice (some ⟨W.heap.size, 0, none⟩) 1 1)).run Tryd.prog (W.alloc (.cells #[.int .u8 1] 5)) = .ok (.string ⟨#[1]⟩) (W.alloc (.cells #[.int .u8 1] 5)) := fun W => conv1 1 1 rfl W
      show Calls Tryd.prog 3 #[.int .u8 1] w _
      have HC := Lib.hid (decVal_0_t w.heap.size pe pl ⟨#[1]⟩ (w.alloc (.cells #[.int .u8 1] 5)) (by decide) (he1 _) (by simp) rfl)
      clear he he1 hb h0 h1 hx hx0
      go_enter Tryd.func3, Tryd.ntmps3
      go_wp2_with (first
        | (go_at_call 20; go_loud (refine HC.out.mono ?_; rintro e_ w2 ⟨rfl, hb2⟩; have HB := Lib.hid (((Below.refl _ w).alloc (Nat.le_refl _) _).trans (hb2.mono (by simp))); clear hb2))
        | (go_at_call 21; go_loud (refine (awake_any w.heap.size pe pl _ (HE.out.below (HB.out.alloc HB.out.size _)) (by have := HB.out.size; simp; omega)).mono ?_; rintro e_ w3 ⟨rfl, hb3⟩; have HB3 := Lib.hid ((HB.out.alloc HB.out.size _).trans (hb3.mono (by have := HB.out.size; simp; omega))); obtain ⟨hc_, hf_⟩ := (⟨fun o => hb3.cell (p := ⟨w2.heap.size, o, none⟩) (by simp), trivial⟩ : (∀ o, w3.cell? ⟨w2.heap.size, o, none⟩ = _) ∧ True); have x1 := (hc_ 1).trans ((blk_cell (heap_alloc_new w2 _) 1).trans rfl); clear hc_ hb3)))
      go_ret
      exact ⟨rfl, HB3.out⟩
    · have HC := Lib.hid (decVal_0_bad w.heap.size pe pl ⟨#[x]⟩ (w.alloc (.cells #[.int .u8 (n : Int)] 5)) (by show (1 : Nat) ≤ _; omega) (he1 _) (by simp) x ⟨rfl, hx0, hx1⟩)
      have hn2 : 1 < (n : Int) := by
        have a0 : x.toNat ≠ 0 := fun e => hx0 (UInt8.toNat_inj.1 e)
        have a1 : x.toNat ≠ 1 := fun e => hx1 (UInt8.toNat_inj.1 e)
        omega
      clear he he1 hb h0 h1 hx hx0 hx1
      go_enter Tryd.func3, Tryd.ntmps3
      go_wp2_with (first
        | (go_at_call 20; go_loud (refine HC.out.mono ?_; rintro e_ w2 ⟨rn, rs, rfl, hrn, hrs, hb2⟩; have hne1 := ne_empty hrs; have HB := Lib.hid (((Below.refl _ w).alloc (Nat.le_refl _) _).trans (hb2.mono (by simp))); clear hb2 hrs hrn))
        | (go_at_call 21; go_loud (refine (awake_any w.heap.size pe pl _ (HE.out.below (HB.out.alloc HB.out.size _)) (by have := HB.out.size; simp; omega)).mono ?_; rintro e_ w3 ⟨rfl, hb3⟩; have HB3 := Lib.hid ((HB.out.alloc HB.out.size _).trans (hb3.mono (by have := HB.out.size; simp; omega))); obtain ⟨hc_, hf_⟩ := (⟨fun o => hb3.cell (p := ⟨w2.heap.size, o, none⟩) (by simp), trivial⟩ : (∀ o, w3.cell? ⟨w2.heap.size, o, none⟩ = _) ∧ True); have x1 := (hc_ 1).trans ((blk_cell (heap_alloc_new w2 _) 1).trans rfl); clear hc_ hb3)))
      go_ret
      exact ⟨rfl, HB3.out⟩
end Go.Proofs.YtgdbeiadlgkedaaDoor
