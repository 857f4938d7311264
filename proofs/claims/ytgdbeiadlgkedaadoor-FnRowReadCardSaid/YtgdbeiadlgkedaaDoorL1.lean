/- The walks of the statements on how long a number is, and on the order of times. -/
import Derived.Test.YtgdbeiadlgkedaaDoorAw
import Derived.LoopTactic
namespace Go.Proofs.YtgdbeiadlgkedaaDoor
open Go.RowKit
set_option linter.unusedVariables false
set_option linter.unusedSimpArgs false

theorem uvarint_ge : ∀ (k x : Nat), 128 ^ k ≤ x → k + 1 ≤ (Lib.uvarint x).length
  | 0, x, _ => Lib.uvarint_pos x
  | k + 1, x, h => by
    have h1 : 128 ≤ x := Nat.le_trans (by rw [Nat.pow_succ]; have := Nat.pow_pos (n := k) (show 0 < 128 by decide); omega) h
    rw [Lib.uvarint_big h1, List.length_cons]
    have := uvarint_ge k (x / 128) (by rw [Nat.pow_succ] at h; exact (Nat.le_div_iff_mul_le (by decide)).2 h)
    omega
theorem uvarint_ten {x : Nat} (h : 9223372036854775808 ≤ x) (h2 : x < 18446744073709551616) : (Lib.uvarint x).length = 10 := by
  have h1 := uvarint_ge 9 x (by have : (128 : Nat) ^ 9 = 9223372036854775808 := by decide
                                omega)
  have := Lib.uvarint_length64 h2
  omega
def vlen (u : Nat) : Nat := if u = 0 then 0 else (Lib.uvarint u).length
theorem vlen_step {u : Nat} (h : u ≠ 0) : vlen u = 1 + vlen (u / 128) := by
  unfold vlen
  rw [if_neg h]
  by_cases h1 : u < 128
  · rw [if_pos (by omega), Lib.uvarint_small h1]; rfl
  · rw [if_neg (by omega), Lib.uvarint_big (by omega), List.length_cons]; omega
theorem size_mk (l : List UInt8) : (ByteArray.mk l.toArray).size = l.length := by simp [ByteArray.size]
set_option maxHeartbeats 4000000 in
set_option maxRecDepth 100000 in
theorem varLength_walk (B : Nat) (pe pl : Addr) (n : Nat) (w : World) (hn : n < 18446744073709551616) (he : Env B pe pl w) (hB : B ≤ w.heap.size) :
    Calls Tryd.prog 10 #[.int .u64 n] w fun e w' => e = .returned (.bool true) ∧ Below w.heap.size w w' := by
  obtain ⟨y, hy⟩ : ∃ y, y = wrap64 (n : Int) := ⟨_, rfl⟩
  have hu : u64of y = n := by rw [hy]; unfold u64of wrap64; omega
  have hC1 : ∀ W, Calls Tryd.prog 27 #[.agg #[.int .i64 12, .bool false, .int .i64 0, .int .u64 (n : Int), .int .u64 0, .string ⟨#[]⟩, .int .i64 0, .bool false, .bool false, .int .i64 0, .int .i64 0]] W fun e w' => e = .returned (.tuple #[.string ⟨(Lib.uvarint n).toArray⟩, .string ⟨#[]⟩]) ∧ Below W.heap.size W w' := fun W => by
    have := encVal_12 false 0 n 0 ⟨#[]⟩ 0 false false 0 0 W (by omega) (by omega); rwa [Int.toNat_natCast] at this
  have hC2 : ∀ W, Calls Tryd.prog 27 #[.agg #[.int .i64 11, .bool false, .int .i64 y, .int .u64 0, .int .u64 0, .string ⟨#[]⟩, .int .i64 0, .bool false, .bool false, .int .i64 0, .int .i64 0]] W fun e w' => e = .returned (.tuple #[.string ⟨(Lib.uvarint n).toArray⟩, .string ⟨#[]⟩]) ∧ Below W.heap.size W w' := fun W => by
    have := encVal_11 false y 0 0 ⟨#[]⟩ 0 false false 0 0 W; rwa [hu] at this
  obtain ⟨s, hs⟩ : ∃ s : ByteArray, s = ⟨(Lib.uvarint n).toArray⟩ := ⟨_, rfl⟩
  rw [← hs] at hC1 hC2
  obtain ⟨L, hL⟩ : ∃ L, Hid ((Lib.uvarint n).length = L) := ⟨_, Lib.hid rfl⟩
  have hsz : s.size = L := by rw [hs, size_mk, hL.out]
  have HSZ := Lib.hid hsz
  have HC1 := Lib.hid hC1
  have HC2 := Lib.hid hC2
  have HE := Lib.hid (And.intro he hB)
  have HN := Lib.hid hn
  have HL1 := Lib.hid (Lib.uvarint_length64 hn)
  have H0 := Lib.hid (show 1 + vlen (n / 128) = L by
    rw [← hL.out]
    by_cases h1 : n < 128
    · rw [show n / 128 = 0 by omega, Lib.uvarint_small h1]; rfl
    · unfold vlen
      rw [if_neg (by omega), Lib.uvarint_big (x := n) (by omega), List.length_cons]; omega)
  have HY := Lib.hid (show (0 ≤ y) ∨ (y < 0 ∧ L = 10) by
    rw [hy, ← hL.out]
    by_cases h1 : n < 9223372036854775808
    · left; unfold wrap64; omega
    · right; exact ⟨by unfold wrap64; omega, uvarint_ten (by omega) hn⟩)
  have hq : (n : Int) / 128 = ((n / 128 : Nat) : Int) := by omega
  obtain ⟨q, hq0⟩ : ∃ q, Hid (n / 128 = q) := ⟨_, Lib.hid rfl⟩
  rw [hq0.out] at hq
  have HYE := hy.symm
  clear hC1 hC2 he hB hn hs hu hsz hy
  go_enter Tryd.func10, Tryd.ntmps10
  go_wp2
  go_loopg [3, 4] q (fun kq v3 v4 wr => ∃ k : Nat, v3 = .int .i64 k ∧ v4 = .int .u64 kq ∧ Hid (k + vlen kq = L) ∧ w = wr)
  case atStart => exact ⟨1, rfl, rfl, by rw [hq0.out] at H0; exact H0, rfl⟩
  case round =>
    obtain ⟨k, rfl, rfl, HK, hwr⟩ := hrel
    subst hwr
    by_cases hz : gk = 0
    · subst hz
      obtain rfl : k = L := by have := HK.out; simpa [vlen] using this
      clear HK hq
      rcases HY.out with h | ⟨h, h10⟩
      · have q1 : decide (0 ≤ y) = true := by simpa using h
        have q2 := HSZ.out
        go_wp2_with (first
          | (go_at_call 27; (first | ((with_reducible refine (HC1.out w).mono ?_); rintro e_ w1 ⟨rfl, hb1⟩; have HB1 := Lib.hid hb1; clear hb1) | ((with_reducible refine (HC2.out w1).mono ?_); rintro e_ w2 ⟨rfl, hb2⟩; have HB2 := Lib.hid (HB1.out.trans (hb2.mono HB1.out.size)); clear hb2)))
          | (go_at_call 21; go_loud (refine (awake_any B pe pl w2 (HE.out.1.below (HB2.out.mono HE.out.2)) (Nat.le_trans HE.out.2 HB2.out.size)).mono ?_; rintro e_ w3 ⟨rfl, hb3⟩; have HB3 := Lib.hid (HB2.out.trans (hb3.mono HB2.out.size)); clear hb3)))
        go_ret
        exact ⟨rfl, HB3.out⟩
      · have q1 : decide (0 ≤ y) = false := by simpa using h
        have q2 := HSZ.out
        have q3 : ((k : Int) == 10) = true := by rw [beq_iff_eq]; omega
        clear h10
        go_wp2_with (first
          | (go_at_call 27; (first | ((with_reducible refine (HC1.out w).mono ?_); rintro e_ w1 ⟨rfl, hb1⟩; have HB1 := Lib.hid hb1; clear hb1) | ((with_reducible refine (HC2.out w1).mono ?_); rintro e_ w2 ⟨rfl, hb2⟩; have HB2 := Lib.hid (HB1.out.trans (hb2.mono HB1.out.size)); clear hb2)))
          | (go_at_call 21; go_loud (refine (awake_any B pe pl w2 (HE.out.1.below (HB2.out.mono HE.out.2)) (Nat.le_trans HE.out.2 HB2.out.size)).mono ?_; rintro e_ w3 ⟨rfl, hb3⟩; have HB3 := Lib.hid (HB2.out.trans (hb3.mono HB2.out.size)); clear hb3)))
        go_ret
        exact ⟨rfl, HB3.out⟩
    · have h2 : (gk : Int) / 128 = ((gk / 128 : Nat) : Int) := by omega
      obtain ⟨d, hd⟩ : ∃ d, Hid (gk / 128 = d) := ⟨_, Lib.hid rfl⟩
      rw [hd.out] at h2
      have HK1 := Lib.hid (show k + 1 + vlen d = L by have := HK.out; rw [vlen_step hz, hd.out] at this; omega)
      have HKL := Lib.hid (show k ≤ 10 by have := HK.out; have := HL1.out; have := hL.out; omega)
      have HDL := Lib.hid (show d < gk by have := hd.out; omega)
      have hw1 : IntKind.i64.wrap ((k : Int) + 1) = (k : Int) + 1 := IntWalk.i64_in _ (by have := HKL.out; omega)
      have hw2 : wrap64 ((k : Int) + 1) = (k : Int) + 1 := IntWalk.wrap64_in _ (by have := HKL.out; omega)
      have hp : 0 < (gk : Int) := by omega
      clear hq hz HK
      go_wp2
      go_roundg d
      case measure => exact HDL.out
      case rel => exact ⟨k + 1, by go_num, rfl, HK1, rfl⟩
theorem u64_bd {n : Int} (h : (Lit.int .u64 n).wf = true) : 0 ≤ n ∧ n < 18446744073709551616 := by
  have hmin : IntKind.u64.min = 0 := rfl
  have hmax : IntKind.u64.max = 18446744073709551615 := rfl
  simp only [Lit.wf, Bool.and_eq_true, decide_eq_true_eq] at h
  omega
theorem i64_bd {n : Int} (h : (Lit.int .i64 n).wf = true) : -9223372036854775808 ≤ n ∧ n ≤ 9223372036854775807 := by
  have hmin : IntKind.i64.min = -9223372036854775808 := rfl
  have hmax : IntKind.i64.max = 9223372036854775807 := rfl
  simp only [Lit.wf, Bool.and_eq_true, decide_eq_true_eq] at h
  omega
theorem u8_bd {n : Int} (h : (Lit.int .u8 n).wf = true) : 0 ≤ n ∧ n < 256 := by
  have hmin : IntKind.u8.min = 0 := rfl
  have hmax : IntKind.u8.max = 255 := rfl
  simp only [Lit.wf, Bool.and_eq_true, decide_eq_true_eq] at h
  omega
theorem varLength_row (pe pl : Addr) (n : Int) (w : World) (hn : (Lit.int .u64 n).wf = true) (he : Env w.heap.size pe pl w) :
    Calls Tryd.prog 10 #[.int .u64 n] w fun e w' => e = .returned (.bool true) ∧ Below w.heap.size w w' := by
  obtain ⟨h0, h1⟩ := u64_bd hn
  obtain ⟨k, rfl⟩ := Int.eq_ofNat_of_zero_le h0
  exact varLength_walk w.heap.size pe pl k w (by omega) he (Nat.le_refl _)
end Go.Proofs.YtgdbeiadlgkedaaDoor
