/- The walk of the statement on the order of times. -/
import Derived.Test.YtgdbeiadlgkedaaDoorL1
import Derived.Test.YtgdbeiadlgkedaaDoorPl2
namespace Go.Proofs.YtgdbeiadlgkedaaDoor
open Go.RowKit
set_option linter.unusedVariables false
set_option linter.unusedSimpArgs false

set_option maxHeartbeats 4000000 in
set_option maxRecDepth 100000 in
theorem timeOrder_row (pe pl : Addr) (a b : Int) (w : World) (ha : (Lit.int .i64 a).wf = true) (hb : (Lit.int .i64 b).wf = true) (he : Env w.heap.size pe pl w) :
    Calls Tryd.prog 9 #[.int .i64 a, .int .i64 b] w fun e w' => e = .returned (.bool true) ∧ Below w.heap.size w w' := by
  obtain ⟨a0, a1⟩ := i64_bd ha
  obtain ⟨b0, b1⟩ := i64_bd hb
  have e8 : (256 : Nat) ^ 8 = 18446744073709551616 := by decide
  have hl := less_beBytes 8 (a + 9223372036854775808).toNat (b + 9223372036854775808).toNat (by omega) (by omega)
  have hC1 : ∀ W, Calls Tryd.prog 27 #[.agg #[.int .i64 4, .bool false, .int .i64 a, .int .u64 0, .int .u64 0, .string ⟨#[]⟩, .int .i64 0, .bool false, .bool false, .int .i64 0, .int .i64 0]] W fun e w' => e = .returned (.tuple #[.string ⟨(Lib.beBytes 8 (a + 9223372036854775808).toNat).toArray⟩, .string ⟨#[]⟩]) ∧ Below W.heap.size W w' := fun W => encVal_4 false a 0 0 ⟨#[]⟩ 0 false false 0 0 W a0 a1
  have hC2 : ∀ W, Calls Tryd.prog 27 #[.agg #[.int .i64 4, .bool false, .int .i64 b, .int .u64 0, .int .u64 0, .string ⟨#[]⟩, .int .i64 0, .bool false, .bool false, .int .i64 0, .int .i64 0]] W fun e w' => e = .returned (.tuple #[.string ⟨(Lib.beBytes 8 (b + 9223372036854775808).toNat).toArray⟩, .string ⟨#[]⟩]) ∧ Below W.heap.size W w' := fun W => encVal_4 false b 0 0 ⟨#[]⟩ 0 false false 0 0 W b0 b1
  have HE := Lib.hid he
  by_cases hab : a = b
  · subst hab
    obtain ⟨s, hs⟩ : ∃ s : ByteArray, s = ⟨(Lib.beBytes 8 (a + 9223372036854775808).toNat).toArray⟩ := ⟨_, rfl⟩
    rw [← hs] at hC1
    have q1 : Op.bytesLess s.toList s.toList = false := by rw [ByteArray.toList_eq, hs]; simpa using hl
    have HC1 := Lib.hid hC1
    clear hC1 hC2 hl hs he a0 a1 b0 b1 ha hb e8
    go_enter Tryd.func9, Tryd.ntmps9
    go_wp2_with (first
      | (go_at_call 27; first | ((with_reducible refine (HC1.out w).mono ?_); rintro e_ w1 ⟨rfl, hb1⟩; have HB1 := Lib.hid hb1; clear hb1) | ((with_reducible refine (HC1.out w1).mono ?_); rintro e_ w2 ⟨rfl, hb2⟩; have HB2 := Lib.hid (HB1.out.trans (hb2.mono HB1.out.size)); clear hb2))
      | (go_at_call 21; go_loud (refine (awake_any w.heap.size pe pl w2 (HE.out.below HB2.out) HB2.out.size).mono ?_; rintro e_ w3 ⟨rfl, hb3⟩; have HB3 := Lib.hid (HB2.out.trans (hb3.mono HB2.out.size)); clear hb3)))
    go_ret
    exact ⟨rfl, HB3.out⟩
  · have hne : Lib.beBytes 8 (a + 9223372036854775808).toNat ≠ Lib.beBytes 8 (b + 9223372036854775808).toNat := fun h => hab (by
      have := beBytes_inj (by omega) (by omega) h; omega)
    obtain ⟨s, hs⟩ : ∃ s : ByteArray, s = ⟨(Lib.beBytes 8 (a + 9223372036854775808).toNat).toArray⟩ := ⟨_, rfl⟩
    obtain ⟨u, hu⟩ : ∃ u : ByteArray, u = ⟨(Lib.beBytes 8 (b + 9223372036854775808).toNat).toArray⟩ := ⟨_, rfl⟩
    rw [← hs] at hC1
    rw [← hu] at hC2
    have q2 : (s.toList == u.toList) = false := by rw [ByteArray.toList_eq, ByteArray.toList_eq, hs, hu]; exact beq_eq_false_iff_ne.mpr (by simpa using hne)
    have q3 : (a == b) = false := beq_eq_false_iff_ne.mpr hab
    have HC1 := Lib.hid hC1
    have HC2 := Lib.hid hC2
    rcases Int.lt_or_lt_of_ne hab with h | h
    · have q1 : Op.bytesLess s.toList u.toList = true := by rw [ByteArray.toList_eq, ByteArray.toList_eq, hs, hu, show (ByteArray.mk (Lib.beBytes 8 (a + 9223372036854775808).toNat).toArray).data.toList = Lib.beBytes 8 (a + 9223372036854775808).toNat from rfl, show (ByteArray.mk (Lib.beBytes 8 (b + 9223372036854775808).toNat).toArray).data.toList = Lib.beBytes 8 (b + 9223372036854775808).toNat from rfl, hl]; exact decide_eq_true (by omega)
      have q4 : decide (a < b) = true := decide_eq_true h
      clear hC1 hC2 hl hs hu he a0 a1 b0 b1 ha hb e8 hne hab h
      go_enter Tryd.func9, Tryd.ntmps9
      go_wp2_with (first
        | (go_at_call 27; first | ((with_reducible refine (HC1.out w).mono ?_); rintro e_ w1 ⟨rfl, hb1⟩; have HB1 := Lib.hid hb1; clear hb1) | ((with_reducible refine (HC2.out w1).mono ?_); rintro e_ w2 ⟨rfl, hb2⟩; have HB2 := Lib.hid (HB1.out.trans (hb2.mono HB1.out.size)); clear hb2))
        | (go_at_call 21; go_loud (refine (awake_any w.heap.size pe pl w2 (HE.out.below HB2.out) HB2.out.size).mono ?_; rintro e_ w3 ⟨rfl, hb3⟩; have HB3 := Lib.hid (HB2.out.trans (hb3.mono HB2.out.size)); clear hb3)))
      go_ret
      exact ⟨rfl, HB3.out⟩
    · have q1 : Op.bytesLess s.toList u.toList = false := by rw [ByteArray.toList_eq, ByteArray.toList_eq, hs, hu, show (ByteArray.mk (Lib.beBytes 8 (a + 9223372036854775808).toNat).toArray).data.toList = Lib.beBytes 8 (a + 9223372036854775808).toNat from rfl, show (ByteArray.mk (Lib.beBytes 8 (b + 9223372036854775808).toNat).toArray).data.toList = Lib.beBytes 8 (b + 9223372036854775808).toNat from rfl, hl]; exact decide_eq_false (by omega)
      have q4 : decide (a < b) = false := decide_eq_false (by omega)
      clear hC1 hC2 hl hs hu he a0 a1 b0 b1 ha hb e8 hne hab h
      go_enter Tryd.func9, Tryd.ntmps9
      go_wp2_with (first
        | (go_at_call 27; first | ((with_reducible refine (HC1.out w).mono ?_); rintro e_ w1 ⟨rfl, hb1⟩; have HB1 := Lib.hid hb1; clear hb1) | ((with_reducible refine (HC2.out w1).mono ?_); rintro e_ w2 ⟨rfl, hb2⟩; have HB2 := Lib.hid (HB1.out.trans (hb2.mono HB1.out.size)); clear hb2))
        | (go_at_call 21; go_loud (refine (awake_any w.heap.size pe pl w2 (HE.out.below HB2.out) HB2.out.size).mono ?_; rintro e_ w3 ⟨rfl, hb3⟩; have HB3 := Lib.hid (HB2.out.trans (hb3.mono HB2.out.size)); clear hb3)))
      go_ret
      exact ⟨rfl, HB3.out⟩
end Go.Proofs.YtgdbeiadlgkedaaDoor
