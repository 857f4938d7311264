/- The walk of the statement on a row's nil bits. -/
import Derived.Test.YtgdbeiadlgkedaaDoorL5
namespace Go.Proofs.YtgdbeiadlgkedaaDoor
open Go.RowKit
open Go.Joins (below_bytesWorld)
set_option linter.unusedVariables false
set_option linter.unusedSimpArgs false

theorem bytes_at (w : World) (s : ByteArray) : At (Lib.bytesWorld w 5 s) ⟨w.heap.size, 0, none⟩ s.data.toList := At.mk fun j x hj => by
  have hjl : j < s.size := by have := (List.getElem?_eq_some_iff.1 hj).1; rwa [Array.length_toList] at this
  have := Lib.bytesWorld_cell w 5 s j hjl
  rw [List.getD_eq_getElem?_getD, hj] at this
  exact this
theorem nilBit (x : UInt8) (m : Nat) : (bits .and .u8 ((x.toNat : Int) / 2 ^ m) 1 == 1) = decide (x.toNat / 2 ^ m % 2 = 1) := by
  have e : (x.toNat : Int) / 2 ^ m = ((x.toNat / 2 ^ m : Nat) : Int) := by
    rw [Int.natCast_ediv, Int.natCast_pow]; rfl
  rw [e, and1 _ (Nat.lt_of_le_of_lt (Nat.div_le_self _ _) x.toNat_lt)]
  rcases (show x.toNat / 2 ^ m % 2 = 1 ∨ x.toNat / 2 ^ m % 2 = 0 by omega) with h | h <;> rw [h] <;> rfl
set_option maxHeartbeats 4000000 in
set_option maxRecDepth 100000 in
theorem isNil_in (b c : Nat) (s : ByteArray) (f : Nat) (x : UInt8) (w : World) (hf : f < 9223372036854775808) (hx : s.data.toList[f / 8]? = some x) (ha : w.cell? ⟨b, f / 8, none⟩ = some (.int .u8 x.toNat)) :
    Calls Tryd.prog 88 #[.slice (some ⟨b, 0, none⟩) s.size c, .int .i64 f] w fun e w' => e = .returned (.bool (x.toNat / 2 ^ (f % 8) % 2 = 1)) ∧ w = w' := by
  obtain ⟨q, hq⟩ : ∃ q, Hid (f / 8 = q) := ⟨_, Lib.hid rfl⟩
  obtain ⟨m, hm⟩ : ∃ m, Hid (f % 8 = m) := ⟨_, Lib.hid rfl⟩
  have a1 : (f : Int).tdiv 8 = (q : Int) := by rw [← hq.out]; exact (Int.ofNat_tdiv f 8).symm
  have a2 : (f : Int).tmod 8 = (m : Int) := by rw [← hm.out]; exact (Int.ofNat_tmod f 8).symm
  have a3 : wrap64 (q : Int) = (q : Int) := by have := hq.out; unfold wrap64; omega
  have a4 : wrap64 (m : Int) = (m : Int) := by have := hm.out; unfold wrap64; omega
  have a5 : (m : Int) % 256 = (m : Int) := by have := hm.out; omega
  have a6 : (m : Int) < 8 := by have := hm.out; omega
  have a7 : m < 8 := by have := hm.out; omega
  have hl : q < s.size := by
    have h1 := (List.getElem?_eq_some_iff.1 hx).1
    rw [Array.length_toList] at h1
    have := hq.out
    show q < s.data.size
    omega
  have h02 : ((s.size : Int) != 0) = true := by rw [bne_iff_ne]; omega
  have hl2 : (q : Int) < (s.size : Int) := by omega
  have hbit := nilBit x m
  rw [hq.out] at ha
  rw [hm.out]
  clear hx hf
  go_enter Tryd.func88, Tryd.ntmps88
  go_wp2
  go_ret
  exact ⟨rfl, rfl⟩
set_option maxHeartbeats 4000000 in
set_option maxRecDepth 100000 in
theorem isNil_out (b c : Nat) (s : ByteArray) (f : Nat) (w : World) (hf : f < 9223372036854775808) (hx : ¬ f / 8 < s.size) :
    Calls Tryd.prog 88 #[.slice (some ⟨b, 0, none⟩) s.size c, .int .i64 f] w fun e w' => e = .returned (.bool false) ∧ w = w' := by
  obtain ⟨q, hq⟩ : ∃ q, Hid (f / 8 = q) := ⟨_, Lib.hid rfl⟩
  obtain ⟨m, hm⟩ : ∃ m, Hid (f % 8 = m) := ⟨_, Lib.hid rfl⟩
  have a1 : (f : Int).tdiv 8 = (q : Int) := by rw [← hq.out]; exact (Int.ofNat_tdiv f 8).symm
  have a2 : (f : Int).tmod 8 = (m : Int) := by rw [← hm.out]; exact (Int.ofNat_tmod f 8).symm
  have a3 : wrap64 (q : Int) = (q : Int) := by have := hq.out; unfold wrap64; omega
  have a4 : wrap64 (m : Int) = (m : Int) := by have := hm.out; unfold wrap64; omega
  have a5 : (m : Int) % 256 = (m : Int) := by have := hm.out; omega
  have a6 : (m : Int) < 8 := by have := hm.out; omega
  have a7 : m < 8 := by have := hm.out; omega
  have hl2 : ¬ (q : Int) < (s.size : Int) := by have := hq.out; omega
  clear hx hf
  go_enter Tryd.func88, Tryd.ntmps88
  go_wp2
  go_ret
  exact ⟨rfl, rfl⟩
set_option maxHeartbeats 4000000 in
set_option maxRecDepth 100000 in
theorem rowNil_in (s : ByteArray) (f : Nat) (x : UInt8) (w : World) (hf : f < 9223372036854775808) (hx : s.data.toList[f / 8]? = some x) :
    Calls Tryd.prog 36 #[.string s, .int .i64 f] w fun e w' => e = .returned (.bool (x.toNat / 2 ^ (f % 8) % 2 = 1)) ∧ w = w' := by
  obtain ⟨q, hq⟩ : ∃ q, Hid (f / 8 = q) := ⟨_, Lib.hid rfl⟩
  obtain ⟨m, hm⟩ : ∃ m, Hid (f % 8 = m) := ⟨_, Lib.hid rfl⟩
  have a1 : (f : Int).tdiv 8 = (q : Int) := by rw [← hq.out]; exact (Int.ofNat_tdiv f 8).symm
  have a2 : (f : Int).tmod 8 = (m : Int) := by rw [← hm.out]; exact (Int.ofNat_tmod f 8).symm
  have a3 : wrap64 (q : Int) = (q : Int) := by have := hq.out; unfold wrap64; omega
  have a4 : wrap64 (m : Int) = (m : Int) := by have := hm.out; unfold wrap64; omega
  have a5 : (m : Int) % 256 = (m : Int) := by have := hm.out; omega
  have a6 : (m : Int) < 8 := by have := hm.out; omega
  have a7 : m < 8 := by have := hm.out; omega
  have hl : q < s.size := by
    have h1 := (List.getElem?_eq_some_iff.1 hx).1
    rw [Array.length_toList] at h1
    have := hq.out
    show q < s.data.size
    omega
  have h02 : ((s.size : Int) != 0) = true := by rw [bne_iff_ne]; omega
  have hl2 : (q : Int) < (s.size : Int) := by omega
  have hbit := nilBit x m
  have hg : ∀ h : q < s.size, s[q]'h = x := by
    intro h
    have h2 : s.data.toList[q]? = some x := by rw [← hq.out]; exact hx
    obtain ⟨h3, h4⟩ := List.getElem?_eq_some_iff.1 h2
    rw [← h4]; rfl
  rw [hm.out]
  clear hx hf
  go_enter Tryd.func36, Tryd.ntmps36
  go_wp2
  go_ret
  exact ⟨rfl, rfl⟩
set_option maxHeartbeats 4000000 in
set_option maxRecDepth 100000 in
theorem rowNil_out (s : ByteArray) (f : Nat) (w : World) (hf : f < 9223372036854775808) (hx : ¬ f / 8 < s.size) :
    Calls Tryd.prog 36 #[.string s, .int .i64 f] w fun e w' => e = .returned (.bool false) ∧ w = w' := by
  obtain ⟨q, hq⟩ : ∃ q, Hid (f / 8 = q) := ⟨_, Lib.hid rfl⟩
  obtain ⟨m, hm⟩ : ∃ m, Hid (f % 8 = m) := ⟨_, Lib.hid rfl⟩
  have a1 : (f : Int).tdiv 8 = (q : Int) := by rw [← hq.out]; exact (Int.ofNat_tdiv f 8).symm
  have a2 : (f : Int).tmod 8 = (m : Int) := by rw [← hm.out]; exact (Int.ofNat_tmod f 8).symm
  have a3 : wrap64 (q : Int) = (q : Int) := by have := hq.out; unfold wrap64; omega
  have a4 : wrap64 (m : Int) = (m : Int) := by have := hm.out; unfold wrap64; omega
  have a5 : (m : Int) % 256 = (m : Int) := by have := hm.out; omega
  have a6 : (m : Int) < 8 := by have := hm.out; omega
  have a7 : m < 8 := by have := hm.out; omega
  have hl2 : ¬ (q : Int) < (s.size : Int) := by have := hq.out; omega
  clear hx hf
  go_enter Tryd.func36, Tryd.ntmps36
  go_wp2
  go_ret
  exact ⟨rfl, rfl⟩
def nilOf (s : ByteArray) (f : Nat) : Bool := match s.data.toList[f / 8]? with | some x => decide (x.toNat / 2 ^ (f % 8) % 2 = 1) | none => false
theorem rowNil_any (s : ByteArray) (f : Nat) (w : World) (hf : f < 9223372036854775808) :
    Calls Tryd.prog 36 #[.string s, .int .i64 f] w fun e w' => e = .returned (.bool (nilOf s f)) ∧ w = w' := by
  unfold nilOf
  split
  · rename_i x hx; exact rowNil_in s f x w hf hx
  · rename_i hx
    refine rowNil_out s f w hf ?_
    rw [List.getElem?_eq_none_iff, Array.length_toList] at hx
    exact Nat.not_lt.2 hx
theorem isNil_any (b c : Nat) (s : ByteArray) (f : Nat) (w : World) (hf : f < 9223372036854775808) (ha : At w ⟨b, 0, none⟩ s.data.toList) :
    Calls Tryd.prog 88 #[.slice (some ⟨b, 0, none⟩) s.size c, .int .i64 f] w fun e w' => e = .returned (.bool (nilOf s f)) ∧ w = w' := by
  unfold nilOf
  split
  · rename_i x hx
    refine isNil_in b c s f x w hf hx ?_
    have := ha.get hx
    rwa [Nat.zero_add] at this
  · rename_i hx
    refine isNil_out b c s f w hf ?_
    rw [List.getElem?_eq_none_iff, Array.length_toList] at hx
    exact Nat.not_lt.2 hx
set_option maxHeartbeats 4000000 in
set_option maxRecDepth 100000 in
theorem implNil_any (s : ByteArray) (f : Nat) (w : World) (hf : f < 9223372036854775808) :
    Calls Tryd.prog 35 #[.string s, .int .i64 f] w fun e w' => e = .returned (.bool (nilOf s f)) ∧ Below w.heap.size w w' := by
  have kc := conv_bytes
  have HF := Lib.hid hf
  clear hf
  go_enter Tryd.func35, Tryd.ntmps35
  go_wp2_with (go_at_call 88; go_loud (refine (isNil_any w.heap.size _ s f (Lib.bytesWorld w 5 s) HF.out (bytes_at w s)).mono ?_; rintro e_ w1 ⟨rfl, rfl⟩))
  go_ret
  exact ⟨rfl, below_bytesWorld _ w _ s (Nat.le_refl _)⟩
set_option maxHeartbeats 4000000 in
set_option maxRecDepth 100000 in
theorem fieldNil_row (pe pl : Addr) (s : ByteArray) (f : Int) (w : World) (hf : (Lit.int .i64 f).wf = true) (he : Env w.heap.size pe pl w) :
    Calls Tryd.prog 14 #[.string s, .int .i64 f] w fun e w' => e = .returned (.bool true) ∧ Below w.heap.size w w' := by
  have HE := Lib.hid he
  by_cases h1 : 2147483647 < s.size
  · have hc : 2147483647 < (s.size : Int) := by omega
    clear he hf h1
    go_enter Tryd.func14, Tryd.ntmps14
    go_wp2
    go_ret
    exact ⟨rfl, Below.refl _ w⟩
  · have hc : ¬ 2147483647 < (s.size : Int) := by omega
    by_cases h2 : 100 < s.size
    · have hc2 : 100 < (s.size : Int) := by omega
      clear he hf h1 h2
      go_enter Tryd.func14, Tryd.ntmps14
      go_wp2_with (go_at_call 21; go_loud (refine (awake_any w.heap.size pe pl w HE.out (Nat.le_refl _)).mono ?_; rintro e_ w1 ⟨rfl, hb1⟩; have HB1 := Lib.hid hb1; clear hb1))
      go_ret
      exact ⟨rfl, HB1.out⟩
    · have hc2 : ¬ 100 < (s.size : Int) := by omega
      by_cases h3 : f < 0
      · clear he hf h1 h2
        go_enter Tryd.func14, Tryd.ntmps14
        go_wp2_with (go_at_call 21; go_loud (refine (awake_any w.heap.size pe pl w HE.out (Nat.le_refl _)).mono ?_; rintro e_ w1 ⟨rfl, hb1⟩; have HB1 := Lib.hid hb1; clear hb1))
        go_ret
        exact ⟨rfl, HB1.out⟩
      · obtain ⟨k, rfl⟩ := Int.eq_ofNat_of_zero_le (show 0 ≤ f by omega)
        have HF := Lib.hid (show k < 9223372036854775808 by have := i64_bd hf; omega)
        clear he hf h1 h2 h3
        go_enter Tryd.func14, Tryd.ntmps14
        go_wp2_with (first
          | (go_at_call 35; go_loud (refine (implNil_any s k w1 HF.out).mono ?_; rintro e_ w2 ⟨rfl, hb2⟩; have HB2 := Lib.hid (HB1.out.trans (hb2.mono HB1.out.size)); clear hb2))
          | (go_at_call 36; go_loud (refine (rowNil_any s k w2 HF.out).mono ?_; rintro e_ w3 ⟨rfl, rfl⟩))
          | (go_at_call 21; go_loud (refine (awake_any w.heap.size pe pl w HE.out (Nat.le_refl _)).mono ?_; rintro e_ w1 ⟨rfl, hb1⟩; have HB1 := Lib.hid hb1; clear hb1)))
        go_ret
        exact ⟨rfl, HB2.out⟩
end Go.Proofs.YtgdbeiadlgkedaaDoor
