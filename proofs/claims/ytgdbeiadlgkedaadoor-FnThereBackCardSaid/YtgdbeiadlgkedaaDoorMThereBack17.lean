/- Contracts and plain laws, several texts in one. -/
import Derived.Test.YtgdbeiadlgkedaaDoorMThereBack1
import Derived.Test.YtgdbeiadlgkedaaDoorMThereBack2
import Derived.Test.YtgdbeiadlgkedaaDoorMThereBack3
import Derived.Test.YtgdbeiadlgkedaaDoorMThereBack10
import Derived.Test.YtgdbeiadlgkedaaDoorMThereBack11
import Derived.Test.YtgdbeiadlgkedaaDoorMThereBack12
import Derived.Test.YtgdbeiadlgkedaaDoorMThereBack13
import Derived.Test.YtgdbeiadlgkedaaDoorMThereBack14
import Derived.Test.YtgdbeiadlgkedaaDoorMThereBack15
import Derived.Test.YtgdbeiadlgkedaaDoorMThereBack16
import Derived.Test.YtgdbeiadlgkedaaDoorMThereBack18
import Derived.Test.YtgdbeiadlgkedaaDoorProg
import Derived.Below
import Derived.Deep.Draws
import Derived.Deep.AppendLies
import Derived.Maps.AppendAt
import Derived.OwnWalk
import Derived.Laws.BytesArg
import Derived.Laws.MakeOwn
import Derived.Laws.OwnMore
import Derived.Deep.OwnRows
import Derived.Tactics
import Derived.Lib.ConvBytes
import Derived.Laws.Slices
import Derived.WalkKit
import Derived.KernelRfl
import Derived.RowKit3
import Derived.Deep.LoopGhost
import Derived.Deep.QuietTactic
import Derived.BigQuiet
import Derived.WideLaws
import Derived.Deep.DeepCutAuto
import Derived.Deep.CutBlock
import Derived.Deep.RegionHeld3
import Derived.Laws.Rows
import Derived.Lib.AppendStr
import Derived.ArgAppend
import Derived.Laws.IdiomCopy
import Derived.OrdersHeld
import Derived.Laws.BitsLemmas
import Derived.RowKit
import Derived.WalkSmall
set_option linter.unusedVariables false
set_option linter.unusedSimpArgs false
namespace Go.Proofs.YtgdbeiadlgkedaaDoor
open Go.RowKit PFnEncode Go.Proofs.YtgdbeiadlgkedaaDoorW.PrintWords Go.Proofs.YtgdbeiadlgkedaaDoorW.PrintLast Go.Proofs.YtgdbeiadlgkedaaDoorW.PrintMore
structure TB (a0 : Int) (fl : Bool) (n u b : Int) (t : ByteArray) (pt : Int) (pf pl : Bool) (pi pn : Int) (e : List UInt8) (qi qn : Int) : Prop where
  len : e.length ≤ 400
  enc : ∀ W, Calls Tryd.prog 27 #[.agg #[.int .i64 a0, .bool fl, .int .i64 n, .int .u64 u, .int .u64 b, .string t, .int .i64 pt, .bool pf, .bool pl, .int .i64 pi, .int .i64 pn]] W fun x w' => x = .returned (.tuple #[.string ⟨e.toArray⟩, .string ⟨#[]⟩]) ∧ Below W.heap.size W w'
  dec : ∀ (B : Nat) (pe pl_ : Addr) (s : ByteArray) (r : List UInt8) (W : World), s.data.toList = e ++ r → s.size ≤ 4294967296 → Env B pe pl_ W → B ≤ W.heap.size → Calls Tryd.prog 20 #[.int .i64 a0, .string s] W fun x w' => x = .returned (.tuple #[.agg #[.int .i64 a0, .bool fl, .int .i64 n, .int .u64 u, .int .u64 b, .string t, .int .i64 pt, .bool pf, .bool pl, .int .i64 qi, .int .i64 qn], .int .i64 (e.length : Nat), .string ⟨#[]⟩]) ∧ Below W.heap.size W w'
theorem strE {t : ByteArray} (h : t.toList = []) : t = ⟨#[]⟩ := by rw [ByteArray.toList_eq] at h; exact str_ext0 h
theorem take_pre {e r : List UInt8} {k : Nat} (h : e.length = k) : (e ++ r).take k = e := by rw [← h, List.take_left]
theorem u64of_wrap (n : Int) (h : -9223372036854775808 ≤ n ∧ n ≤ 9223372036854775807) : wrap64 (u64of n : Int) = n := by unfold u64of wrap64; omega
theorem u64n_wrap64 (n : Int) (h : -9223372036854775808 ≤ n ∧ n ≤ 9223372036854775807) : wrap64 (u64n n : Int) = n := by unfold u64n wrap64; omega
theorem be8 (v : Nat) (h : v < 18446744073709551616) : Lib.beNat (Lib.beBytes 8 v) = v := Lib.beNat_beBytes 8 v (by rw [show (256 : Nat) ^ 8 = 18446744073709551616 by decide]; exact h)
theorem be4 (v : Nat) (h : v < 4294967296) : Lib.beNat (Lib.beBytes 4 v) = v := Lib.beNat_beBytes 4 v (by rw [show (256 : Nat) ^ 4 = 4294967296 by decide]; exact h)
theorem time_back (n : Int) (h : -9223372036854775808 ≤ n ∧ n ≤ 9223372036854775807) : wrap64 (wrap64 (((n + 9223372036854775808).toNat : Nat) : Int) + -9223372036854775808) = n := by
  have : (((n + 9223372036854775808).toNat : Nat) : Int) = n + 9223372036854775808 := by omega
  rw [this]; unfold wrap64; omega
theorem w32_back (n : Int) (h : wrap64 (wrap32 n) = n) : wrap32 (((wrap32 n % 4294967296).toNat : Nat) : Int) = n := by
  have h2 : wrap64 (wrap32 n) = wrap32 n := by unfold wrap32 wrap64; omega
  rw [h2] at h
  have e : (((wrap32 n % 4294967296).toNat : Nat) : Int) = wrap32 n % 4294967296 := by omega
  rw [e]
  have : wrap32 (wrap32 n % 4294967296) = wrap32 n := by unfold wrap32; omega
  rw [this, h]
theorem lenS {s : ByteArray} {e r : List UInt8} (h : s.data.toList = e ++ r) {k : Nat} (hk : e.length = k) : 0 + k ≤ s.data.toList.length := by rw [h, List.length_append]; omega
theorem tb_0 (fl : Bool) (n u b : Int) (t : ByteArray) (pt : Int) (pf pl : Bool) (pi pn : Int) (hn : -9223372036854775808 ≤ n ∧ n ≤ 9223372036854775807) (hu : 0 ≤ u ∧ u < 18446744073709551616) (hb : 0 ≤ b ∧ b < 18446744073709551616) (hi : -9223372036854775808 ≤ pi ∧ pi ≤ 9223372036854775807) (hpn : -9223372036854775808 ≤ pn ∧ pn ≤ 9223372036854775807) (hc : laws_codClean.f (0 + 5) 0 fl n u b t pt pf pl pi pn = some true) : ∃ e qi qn, TB 0 fl n u b t pt pf pl pi pn e qi qn ∧ qi = pi ∧ qn = pn := by
  rcases dsplit (clean_0 0 fl n u b t pt pf pl pi pn) with ⟨_, hf⟩ | h
  rotate_left
  · rw [h] at hc; cases hc
  obtain ⟨⟨rfl, rfl, rfl, ht, rfl, rfl, rfl, rfl, rfl⟩, hf⟩ := hf
  obtain rfl := strE ht
  refine ⟨[if fl then 1 else 0], 0, 0, ⟨by simp, fun W => encVal_0 fl 0 0 0 ⟨#[]⟩ 0 false false 0 0 W, fun B pe pl_ s r W hs hs32 hE hB => ?_⟩, rfl, rfl⟩
  cases fl
  · exact decVal_0_f B pe pl_ s W hs32 hE hB (by rw [hs]; rfl)
  · exact decVal_0_t B pe pl_ s W hs32 hE hB (by rw [hs]; rfl)
theorem tb_1 (fl : Bool) (n u b : Int) (t : ByteArray) (pt : Int) (pf pl : Bool) (pi pn : Int) (hn : -9223372036854775808 ≤ n ∧ n ≤ 9223372036854775807) (hu : 0 ≤ u ∧ u < 18446744073709551616) (hb : 0 ≤ b ∧ b < 18446744073709551616) (hi : -9223372036854775808 ≤ pi ∧ pi ≤ 9223372036854775807) (hpn : -9223372036854775808 ≤ pn ∧ pn ≤ 9223372036854775807) (hc : laws_codClean.f (0 + 5) 1 fl n u b t pt pf pl pi pn = some true) : ∃ e qi qn, TB 1 fl n u b t pt pf pl pi pn e qi qn ∧ qi = pi ∧ qn = pn := by
  rcases dsplit (clean_1 0 fl n u b t pt pf pl pi pn) with ⟨_, hf⟩ | h
  rotate_left
  · rw [h] at hc; cases hc
  obtain ⟨⟨rfl, rfl, rfl, ht, rfl, rfl, rfl, rfl, rfl⟩, hf⟩ := hf
  obtain rfl := strE ht
  refine ⟨[(n % 256).toNat.toUInt8], 0, 0, ⟨by simp, fun W => encVal_1 false n 0 0 ⟨#[]⟩ 0 false false 0 0 W, fun B pe pl_ s r W hs hs32 hE hB => ?_⟩, rfl, rfl⟩
  have h := decVal_1_ok B pe pl_ s W hs32 hE hB ((n % 256).toNat.toUInt8) (by rw [hs]; rfl)
  rw [show (((n % 256).toNat.toUInt8).toNat : Int) = n by rw [u8_toNat (by omega)]; omega] at h
  exact h
theorem tb_3 (fl : Bool) (n u b : Int) (t : ByteArray) (pt : Int) (pf pl : Bool) (pi pn : Int) (hn : -9223372036854775808 ≤ n ∧ n ≤ 9223372036854775807) (hu : 0 ≤ u ∧ u < 18446744073709551616) (hb : 0 ≤ b ∧ b < 18446744073709551616) (hi : -9223372036854775808 ≤ pi ∧ pi ≤ 9223372036854775807) (hpn : -9223372036854775808 ≤ pn ∧ pn ≤ 9223372036854775807) (hc : laws_codClean.f (0 + 5) 3 fl n u b t pt pf pl pi pn = some true) : ∃ e qi qn, TB 3 fl n u b t pt pf pl pi pn e qi qn ∧ qi = pi ∧ qn = pn := by
  rcases dsplit (clean_3 0 fl n u b t pt pf pl pi pn) with ⟨_, hf⟩ | h
  rotate_left
  · rw [h] at hc; cases hc
  obtain ⟨⟨rfl, rfl, rfl, ht, rfl, rfl, rfl, rfl, rfl⟩, hf⟩ := hf
  obtain rfl := strE ht
  refine ⟨Lib.beBytes 8 b.toNat, 0, 0, ⟨by rw [Lib.beBytes_length]; decide, fun W => encVal_3 false 0 0 b ⟨#[]⟩ 0 false false 0 0 W hb.1 hb.2, fun B pe pl_ s r W hs hs32 hE hB => ?_⟩, rfl, rfl⟩
  have hl : (Lib.beBytes 8 b.toNat).length = 8 := Lib.beBytes_length _ _
  have h := decVal_3_ok B pe pl_ s W hs32 hE hB (lenS hs hl)
  rw [hs, take_pre hl, be8 _ (by omega), show ((b.toNat : Nat) : Int) = b by omega] at h
  rw [hl]
  exact h
theorem tb_4 (fl : Bool) (n u b : Int) (t : ByteArray) (pt : Int) (pf pl : Bool) (pi pn : Int) (hn : -9223372036854775808 ≤ n ∧ n ≤ 9223372036854775807) (hu : 0 ≤ u ∧ u < 18446744073709551616) (hb : 0 ≤ b ∧ b < 18446744073709551616) (hi : -9223372036854775808 ≤ pi ∧ pi ≤ 9223372036854775807) (hpn : -9223372036854775808 ≤ pn ∧ pn ≤ 9223372036854775807) (hc : laws_codClean.f (0 + 5) 4 fl n u b t pt pf pl pi pn = some true) : ∃ e qi qn, TB 4 fl n u b t pt pf pl pi pn e qi qn ∧ qi = pi ∧ qn = pn := by
  rcases dsplit (clean_4 0 fl n u b t pt pf pl pi pn) with ⟨_, hf⟩ | h
  rotate_left
  · rw [h] at hc; cases hc
  obtain ⟨⟨rfl, rfl, rfl, ht, rfl, rfl, rfl, rfl, rfl⟩, hf⟩ := hf
  obtain rfl := strE ht
  refine ⟨Lib.beBytes 8 (n + 9223372036854775808).toNat, 0, 0, ⟨by rw [Lib.beBytes_length]; decide, fun W => encVal_4 false n 0 0 ⟨#[]⟩ 0 false false 0 0 W hn.1 hn.2, fun B pe pl_ s r W hs hs32 hE hB => ?_⟩, rfl, rfl⟩
  have hl : (Lib.beBytes 8 (n + 9223372036854775808).toNat).length = 8 := Lib.beBytes_length _ _
  have h := decVal_4_ok B pe pl_ s W hs32 hE hB (lenS hs hl)
  rw [hs, take_pre hl, be8 _ (by omega), time_back n hn] at h
  rw [hl]
  exact h
theorem tb_5 (fl : Bool) (n u b : Int) (t : ByteArray) (pt : Int) (pf pl : Bool) (pi pn : Int) (hn : -9223372036854775808 ≤ n ∧ n ≤ 9223372036854775807) (hu : 0 ≤ u ∧ u < 18446744073709551616) (hb : 0 ≤ b ∧ b < 18446744073709551616) (hi : -9223372036854775808 ≤ pi ∧ pi ≤ 9223372036854775807) (hpn : -9223372036854775808 ≤ pn ∧ pn ≤ 9223372036854775807) (hc : laws_codClean.f (0 + 5) 5 fl n u b t pt pf pl pi pn = some true) : ∃ e qi qn, TB 5 fl n u b t pt pf pl pi pn e qi qn ∧ qi = pi ∧ qn = pn := by
  rcases dsplit (clean_5 0 fl n u b t pt pf pl pi pn) with ⟨_, hf⟩ | h
  rotate_left
  · rw [h] at hc; cases hc
  obtain ⟨⟨rfl, rfl, rfl, ht, rfl, rfl, rfl, rfl, rfl⟩, hf⟩ := hf
  obtain rfl := strE ht
  refine ⟨Lib.beBytes 4 (wrap32 n % 4294967296).toNat, 0, 0, ⟨by rw [Lib.beBytes_length]; decide, fun W => encVal_5 false n 0 0 ⟨#[]⟩ 0 false false 0 0 W, fun B pe pl_ s r W hs hs32 hE hB => ?_⟩, rfl, rfl⟩
  have hl : (Lib.beBytes 4 (wrap32 n % 4294967296).toNat).length = 4 := Lib.beBytes_length _ _
  have h := decVal_5_ok B pe pl_ s W hs32 hE hB (lenS hs hl)
  rw [hs, take_pre hl, be4 _ (by omega), w32_back n hf] at h
  rw [hl]
  exact h
theorem tb_7 (fl : Bool) (n u b : Int) (t : ByteArray) (pt : Int) (pf pl : Bool) (pi pn : Int) (hn : -9223372036854775808 ≤ n ∧ n ≤ 9223372036854775807) (hu : 0 ≤ u ∧ u < 18446744073709551616) (hb : 0 ≤ b ∧ b < 18446744073709551616) (hi : -9223372036854775808 ≤ pi ∧ pi ≤ 9223372036854775807) (hpn : -9223372036854775808 ≤ pn ∧ pn ≤ 9223372036854775807) (hc : laws_codClean.f (0 + 5) 7 fl n u b t pt pf pl pi pn = some true) : ∃ e qi qn, TB 7 fl n u b t pt pf pl pi pn e qi qn ∧ qi = pi ∧ qn = pn := by
  rcases dsplit (clean_7 0 fl n u b t pt pf pl pi pn) with ⟨_, hf⟩ | h
  rotate_left
  · rw [h] at hc; cases hc
  obtain ⟨⟨rfl, rfl, rfl, ht, rfl, rfl, rfl, rfl, rfl⟩, hf⟩ := hf
  obtain rfl := strE ht
  refine ⟨Lib.beBytes 4 (b % 4294967296).toNat, 0, 0, ⟨by rw [Lib.beBytes_length]; decide, fun W => encVal_7 false 0 0 b ⟨#[]⟩ 0 false false 0 0 W hb.1 hb.2, fun B pe pl_ s r W hs hs32 hE hB => ?_⟩, rfl, rfl⟩
  have hl : (Lib.beBytes 4 (b % 4294967296).toNat).length = 4 := Lib.beBytes_length _ _
  have h := decVal_7_ok B pe pl_ s W hs32 hE hB (lenS hs hl)
  rw [hs, take_pre hl, be4 _ (by omega), show (((b % 4294967296).toNat : Nat) : Int) = b by have := hf.1; omega] at h
  rw [hl]
  exact h
theorem tb_9 (fl : Bool) (n u b : Int) (t : ByteArray) (pt : Int) (pf pl : Bool) (pi pn : Int) (hn : -9223372036854775808 ≤ n ∧ n ≤ 9223372036854775807) (hu : 0 ≤ u ∧ u < 18446744073709551616) (hb : 0 ≤ b ∧ b < 18446744073709551616) (hi : -9223372036854775808 ≤ pi ∧ pi ≤ 9223372036854775807) (hpn : -9223372036854775808 ≤ pn ∧ pn ≤ 9223372036854775807) (hc : laws_codClean.f (0 + 5) 9 fl n u b t pt pf pl pi pn = some true) : ∃ e qi qn, TB 9 fl n u b t pt pf pl pi pn e qi qn ∧ qi = pi ∧ qn = pn := by
  rcases dsplit (clean_9 0 fl n u b t pt pf pl pi pn) with ⟨_, hf⟩ | h
  rotate_left
  · rw [h] at hc; cases hc
  obtain ⟨⟨rfl, rfl, rfl, ht, rfl, rfl, rfl, rfl, rfl⟩, hf⟩ := hf
  obtain rfl := strE ht
  refine ⟨Lib.beBytes 4 (u % 4294967296).toNat, 0, 0, ⟨by rw [Lib.beBytes_length]; decide, fun W => encVal_9 false 0 u 0 ⟨#[]⟩ 0 false false 0 0 W, fun B pe pl_ s r W hs hs32 hE hB => ?_⟩, rfl, rfl⟩
  have hl : (Lib.beBytes 4 (u % 4294967296).toNat).length = 4 := Lib.beBytes_length _ _
  have h := decVal_9_ok B pe pl_ s W hs32 hE hB (lenS hs hl)
  rw [hs, take_pre hl, be4 _ (by omega), show (((u % 4294967296).toNat : Nat) : Int) = u by omega] at h
  rw [hl]
  exact h
theorem tb_10 (fl : Bool) (n u b : Int) (t : ByteArray) (pt : Int) (pf pl : Bool) (pi pn : Int) (hn : -9223372036854775808 ≤ n ∧ n ≤ 9223372036854775807) (hu : 0 ≤ u ∧ u < 18446744073709551616) (hb : 0 ≤ b ∧ b < 18446744073709551616) (hi : -9223372036854775808 ≤ pi ∧ pi ≤ 9223372036854775807) (hpn : -9223372036854775808 ≤ pn ∧ pn ≤ 9223372036854775807) (hc : laws_codClean.f (0 + 5) 10 fl n u b t pt pf pl pi pn = some true) : ∃ e qi qn, TB 10 fl n u b t pt pf pl pi pn e qi qn ∧ qi = pi ∧ qn = pn := by
  rcases dsplit (clean_10 0 fl n u b t pt pf pl pi pn) with ⟨_, hf⟩ | h
  rotate_left
  · rw [h] at hc; cases hc
  obtain ⟨⟨rfl, rfl, rfl, ht, rfl, rfl, rfl, rfl, rfl⟩, hf⟩ := hf
  obtain rfl := strE ht
  refine ⟨Lib.beBytes 8 u.toNat, 0, 0, ⟨by rw [Lib.beBytes_length]; decide, fun W => encVal_10 false 0 u 0 ⟨#[]⟩ 0 false false 0 0 W hu.1 hu.2, fun B pe pl_ s r W hs hs32 hE hB => ?_⟩, rfl, rfl⟩
  have hl : (Lib.beBytes 8 u.toNat).length = 8 := Lib.beBytes_length _ _
  have h := decVal_10_ok B pe pl_ s W hs32 hE hB (lenS hs hl)
  rw [hs, take_pre hl, be8 _ (by omega), show ((u.toNat : Nat) : Int) = u by omega] at h
  rw [hl]
  exact h
theorem tb_11 (fl : Bool) (n u b : Int) (t : ByteArray) (pt : Int) (pf pl : Bool) (pi pn : Int) (hn : -9223372036854775808 ≤ n ∧ n ≤ 9223372036854775807) (hu : 0 ≤ u ∧ u < 18446744073709551616) (hb : 0 ≤ b ∧ b < 18446744073709551616) (hi : -9223372036854775808 ≤ pi ∧ pi ≤ 9223372036854775807) (hpn : -9223372036854775808 ≤ pn ∧ pn ≤ 9223372036854775807) (hc : laws_codClean.f (0 + 5) 11 fl n u b t pt pf pl pi pn = some true) : ∃ e qi qn, TB 11 fl n u b t pt pf pl pi pn e qi qn ∧ qi = pi ∧ qn = pn := by
  rcases dsplit (clean_11 0 fl n u b t pt pf pl pi pn) with ⟨_, hf⟩ | h
  rotate_left
  · rw [h] at hc; cases hc
  obtain ⟨⟨rfl, rfl, rfl, ht, rfl, rfl, rfl, rfl, rfl⟩, hf⟩ := hf
  obtain rfl := strE ht
  refine ⟨Lib.uvarint (u64of n), 0, 0, ⟨by have := Lib.uvarint_length64 (u64of_lt n); omega, fun W => encVal_11 false n 0 0 ⟨#[]⟩ 0 false false 0 0 W, fun B pe pl_ s r W hs hs32 hE hB => ?_⟩, rfl, rfl⟩
  have h := decVal_11_ok B pe pl_ s W hs32 hE hB _ _ (by rw [hs]; exact vrd_uv r (u64of_lt n))
  rw [u64of_wrap n hn] at h
  exact h
theorem tb_12 (fl : Bool) (n u b : Int) (t : ByteArray) (pt : Int) (pf pl : Bool) (pi pn : Int) (hn : -9223372036854775808 ≤ n ∧ n ≤ 9223372036854775807) (hu : 0 ≤ u ∧ u < 18446744073709551616) (hb : 0 ≤ b ∧ b < 18446744073709551616) (hi : -9223372036854775808 ≤ pi ∧ pi ≤ 9223372036854775807) (hpn : -9223372036854775808 ≤ pn ∧ pn ≤ 9223372036854775807) (hc : laws_codClean.f (0 + 5) 12 fl n u b t pt pf pl pi pn = some true) : ∃ e qi qn, TB 12 fl n u b t pt pf pl pi pn e qi qn ∧ qi = pi ∧ qn = pn := by
  rcases dsplit (clean_12 0 fl n u b t pt pf pl pi pn) with ⟨_, hf⟩ | h
  rotate_left
  · rw [h] at hc; cases hc
  obtain ⟨⟨rfl, rfl, rfl, ht, rfl, rfl, rfl, rfl, rfl⟩, hf⟩ := hf
  obtain rfl := strE ht
  refine ⟨Lib.uvarint u.toNat, 0, 0, ⟨by have := Lib.uvarint_length64 (x := u.toNat) (by omega); omega, fun W => encVal_12 false 0 u 0 ⟨#[]⟩ 0 false false 0 0 W hu.1 hu.2, fun B pe pl_ s r W hs hs32 hE hB => ?_⟩, rfl, rfl⟩
  have h := decVal_12_ok B pe pl_ s W hs32 hE hB _ _ (by rw [hs]; exact vrd_uv r (x := u.toNat) (by omega))
  rw [show ((u.toNat : Nat) : Int) = u by omega] at h
  exact h
theorem tb_2 (fl : Bool) (n u b : Int) (t : ByteArray) (pt : Int) (pf pl : Bool) (pi pn : Int) (hn : -9223372036854775808 ≤ n ∧ n ≤ 9223372036854775807) (hu : 0 ≤ u ∧ u < 18446744073709551616) (hb : 0 ≤ b ∧ b < 18446744073709551616) (hi : -9223372036854775808 ≤ pi ∧ pi ≤ 9223372036854775807) (hpn : -9223372036854775808 ≤ pn ∧ pn ≤ 9223372036854775807) (hc : laws_codClean.f (0 + 5) 2 fl n u b t pt pf pl pi pn = some true) : ∃ e qi qn, TB 2 fl n u b t pt pf pl pi pn e qi qn ∧ qi = pi ∧ qn = pn := by
  rcases dsplit (clean_2 0 fl n u b t pt pf pl pi pn) with ⟨_, hf⟩ | h
  rotate_left
  · rw [h] at hc; cases hc
  obtain ⟨⟨rfl, rfl, rfl, rfl, rfl, rfl, rfl, rfl, rfl⟩, hf⟩ := hf
  have htl : t.data.toList.length = t.size := by rw [Array.length_toList]; rfl
  have hsz : t.size ≤ 300 := by omega
  refine ⟨Lib.uvarint t.size ++ t.data.toList, 0, 0, ⟨by rw [List.length_append, htl]; have := Lib.uvarint_length64 (x := t.size) (by omega); omega, fun W => encVal_2 false 0 0 0 t 0 false false 0 0 W (by omega), fun B pe pl_ s r W hs hs32 hE hB => ?_⟩, rfl, rfl⟩
  have hv := vrd_uv (x := t.size) (t.data.toList ++ r) (by omega)
  rw [← List.append_assoc, ← hs] at hv
  have h := decVal_2_ok B pe pl_ s W hs32 hE hB t.size (Lib.uvarint t.size).length ((Lib.uvarint t.size).length + t.size) ⟨hv, by omega, by rw [hs, List.length_append, List.length_append, htl]; omega, rfl⟩
  have he : (⟨((s.data.toList.drop (Lib.uvarint t.size).length).take t.size).toArray⟩ : ByteArray) = t := by
    rw [hs, List.append_assoc, List.drop_left, ← htl, List.take_left]
  rw [he] at h
  rw [List.length_append, htl]
  exact h
theorem tb_8 (fl : Bool) (n u b : Int) (t : ByteArray) (pt : Int) (pf pl : Bool) (pi pn : Int) (hn : -9223372036854775808 ≤ n ∧ n ≤ 9223372036854775807) (hu : 0 ≤ u ∧ u < 18446744073709551616) (hb : 0 ≤ b ∧ b < 18446744073709551616) (hi : -9223372036854775808 ≤ pi ∧ pi ≤ 9223372036854775807) (hpn : -9223372036854775808 ≤ pn ∧ pn ≤ 9223372036854775807) (hc : laws_codClean.f (0 + 5) 8 fl n u b t pt pf pl pi pn = some true) : ∃ e qi qn, TB 8 fl n u b t pt pf pl pi pn e qi qn ∧ qi = pi ∧ qn = pn := by
  rcases dsplit (clean_8 0 fl n u b t pt pf pl pi pn) with ⟨_, hf⟩ | h
  rotate_left
  · rw [h] at hc; cases hc
  obtain ⟨⟨rfl, rfl, rfl, rfl, rfl, rfl, rfl, rfl, rfl⟩, hf⟩ := hf
  have htl : t.data.toList.length = t.size := by rw [Array.length_toList]; rfl
  have hsz : t.size ≤ 300 := by omega
  refine ⟨Lib.uvarint t.size ++ t.data.toList, 0, 0, ⟨by rw [List.length_append, htl]; have := Lib.uvarint_length64 (x := t.size) (by omega); omega, fun W => encVal_8 false 0 0 0 t 0 false false 0 0 W (by omega), fun B pe pl_ s r W hs hs32 hE hB => ?_⟩, rfl, rfl⟩
  have hv := vrd_uv (x := t.size) (t.data.toList ++ r) (by omega)
  rw [← List.append_assoc, ← hs] at hv
  have h := decVal_8_ok B pe pl_ s W hs32 hE hB t.size (Lib.uvarint t.size).length ((Lib.uvarint t.size).length + t.size) ⟨hv, by omega, by rw [hs, List.length_append, List.length_append, htl]; omega, rfl⟩
  have he : (⟨((s.data.toList.drop (Lib.uvarint t.size).length).take t.size).toArray⟩ : ByteArray) = t := by
    rw [hs, List.append_assoc, List.drop_left, ← htl, List.take_left]
  rw [he] at h
  rw [List.length_append, htl]
  exact h
theorem phead_more {t : Nat} (h : t < 4) (f l : Bool) (q : Nat) (hq : q < 3) : ((phead t f l + 16 * q).toUInt8).toNat / 16 = q ∧ ((phead t f l + 16 * q).toUInt8).toNat / 4 % 4 = t ∧ decide (((phead t f l + 16 * q).toUInt8).toNat % 2 = 1) = f ∧ decide (((phead t f l + 16 * q).toUInt8).toNat / 2 % 2 = 1) = l := by
  have hp := phead_lt h f l
  rw [u8_toNat (by omega)]
  rcases (show t = 0 ∨ t = 1 ∨ t = 2 ∨ t = 3 by omega) with rfl | rfl | rfl | rfl <;> rcases (show q = 0 ∨ q = 1 ∨ q = 2 by omega) with rfl | rfl | rfl <;> cases f <;> cases l <;> decide
theorem okTB {r g : Nat} {l : List UInt8} {a b : Nat} {v v' : Value} (h : a = b) (hv : v = v') {w : World} (hc : Calls Tryd.prog 53 #[rdI r] w fun e w' => e = .returned v ∧ w.grownBy w' (some r) ∧ Rd r g l a w') : Calls Tryd.prog 53 #[rdI r] w fun e w' => e = .returned v' ∧ w.grownBy w' (some r) ∧ Rd r g l b w' := by subst h; subst hv; exact hc
theorem tb_6 (fl : Bool) (n u b : Int) (t : ByteArray) (pt : Int) (pf pl : Bool) (pi pn : Int) (hn : -9223372036854775808 ≤ n ∧ n ≤ 9223372036854775807) (hu : 0 ≤ u ∧ u < 18446744073709551616) (hb : 0 ≤ b ∧ b < 18446744073709551616) (hi : -9223372036854775808 ≤ pi ∧ pi ≤ 9223372036854775807) (hpn : -9223372036854775808 ≤ pn ∧ pn ≤ 9223372036854775807) (hc : laws_codClean.f (0 + 5) 6 fl n u b t pt pf pl pi pn = some true) : ∃ e qi qn, TB 6 fl n u b t pt pf pl pi pn e qi qn ∧ qi = (if pt = 3 then 0 else pi) ∧ qn = (if pt = 3 then 0 else pn) := by
  rcases dsplit (clean_6 0 fl n u b t pt pf pl pi pn) with ⟨_, hf⟩ | h
  rotate_left
  · rw [h] at hc; cases hc
  obtain ⟨⟨rfl, rfl, rfl, rfl, ht⟩, hf⟩ := hf
  obtain rfl := strE ht
  obtain ⟨q, rfl⟩ := Int.eq_ofNat_of_zero_le hf.1
  have hq : q < 4 := by have := hf.2.1; omega
  have hok : q = 0 → pn = -1 ∨ (pi = 0 ∧ pn = 0) := fun e => hf.2.2 (by omega)
  have l1 := Lib.uvarint_length64 (u64n_lt pi)
  have l2 := Lib.uvarint_length64 (u64n_lt pn)
  have henc := fun W => encVal_6 false 0 0 0 ⟨#[]⟩ q pf pl pi pn hq hok W
  have e3 : ((q : Int) = 3) ↔ q = 3 := by omega
  refine ⟨pbytes q pf pl pi pn, _, _, ⟨?_, henc, fun B pe pl_ s r W hs hs32 hE hB => ?_⟩, rfl, rfl⟩
  · unfold pbytes; split
    · simp
    · split
      · rw [List.length_cons]; omega
      · rw [List.length_cons, List.length_append]; omega
  refine decVal_6_ok B pe pl_ s W hs32 hE hB q pf pl _ _ _ ⟨by omega, fun r' g w1 h1 h2 h3_ h4 => ?_⟩
  unfold pbytes at hs ⊢
  by_cases c1 : (pi = 0 ∧ pn = 0) ∨ q = 3
  · rw [if_pos c1] at hs ⊢
    obtain ⟨p1, p2, p3, p4⟩ := phead_more hq pf pl 0 (by decide)
    have hz : (if (q : Int) = 3 then (0 : Int) else pi) = 0 ∧ (if (q : Int) = 3 then (0 : Int) else pn) = 0 := by
      by_cases h3 : q = 3
      · rw [if_pos (e3.2 h3), if_pos (e3.2 h3)]; exact ⟨rfl, rfl⟩
      · rw [if_neg (fun h => h3 (e3.1 h)), if_neg (fun h => h3 (e3.1 h))]; rcases c1 with c | c
        · exact c
        · exact absurd c h3
    exact okTB (by simp) (by rw [p2, p3, p4, hz.1, hz.2]) (decPane_0 r' g _ 0 ((phead q pf pl + 16 * 0).toUInt8) w1 h1 (by rw [hs]; rfl) p1)
  have h3 : ¬ q = 3 := fun h => c1 (.inr h)
  have hz1 : (if (q : Int) = 3 then (0 : Int) else pi) = pi := if_neg (fun h => h3 (e3.1 h))
  have hz2 : (if (q : Int) = 3 then (0 : Int) else pn) = pn := if_neg (fun h => h3 (e3.1 h))
  rw [if_neg c1] at hs ⊢
  rw [hz1, hz2]
  by_cases c2 : pi = pn ∨ q = 0
  · rw [if_pos c2] at hs ⊢
    obtain ⟨p1, p2, p3, p4⟩ := phead_more hq pf pl 1 (by decide)
    have hv : vrd 0 0 (s.data.toList.drop (0 + 1)) = some (u64n pi, (Lib.uvarint (u64n pi)).length) := by rw [hs]; exact vrd_uv r (u64n_lt pi)
    have hL : 0 + 1 + (Lib.uvarint (u64n pi)).length = 0 + ((phead q pf pl + 16).toUInt8 :: Lib.uvarint (u64n pi)).length := by rw [List.length_cons]; omega
    by_cases y0 : q = 0
    · have hm : pn = -1 := by
        rcases hok y0 with h | h
        · exact h
        · exact absurd (.inl h) c1
      exact okTB hL (by rw [p2, p3, p4, u64n_wrap64 pi hi, hm]) (decPane_1z r' g _ 0 ((phead q pf pl + 16 * 1).toUInt8) w1 h1 (by rw [hs]; rfl) p1 (by rw [p2]; exact y0) B pe pl_ h2 h3_ h4 _ _ hv)
    · have hm : pi = pn := by
        rcases c2 with h | h
        · exact h
        · exact absurd h y0
      exact okTB hL (by rw [p2, p3, p4, u64n_wrap64 pi hi, ← hm]) (decPane_1 r' g _ 0 ((phead q pf pl + 16 * 1).toUInt8) w1 h1 (by rw [hs]; rfl) p1 (by rw [p2]; exact y0) B pe pl_ h2 h3_ h4 _ _ hv)
  · rw [if_neg c2] at hs ⊢
    obtain ⟨p1, p2, p3, p4⟩ := phead_more hq pf pl 2 (by decide)
    have hv : vrd 0 0 (s.data.toList.drop (0 + 1)) = some (u64n pi, (Lib.uvarint (u64n pi)).length) := by
      rw [hs]
      show vrd 0 0 ((Lib.uvarint (u64n pi) ++ Lib.uvarint (u64n pn)) ++ r) = _
      rw [List.append_assoc]; exact vrd_uv _ (u64n_lt pi)
    have hv2 : vrd 0 0 (s.data.toList.drop (0 + 1 + (Lib.uvarint (u64n pi)).length)) = some (u64n pn, (Lib.uvarint (u64n pn)).length) := by
      rw [hs, ← List.drop_drop]
      show vrd 0 0 (List.drop (Lib.uvarint (u64n pi)).length ((Lib.uvarint (u64n pi) ++ Lib.uvarint (u64n pn)) ++ r)) = _
      rw [List.append_assoc, List.drop_left]; exact vrd_uv _ (u64n_lt pn)
    have hL : 0 + 1 + (Lib.uvarint (u64n pi)).length + (Lib.uvarint (u64n pn)).length = 0 + ((phead q pf pl + 32).toUInt8 :: (Lib.uvarint (u64n pi) ++ Lib.uvarint (u64n pn))).length := by rw [List.length_cons, List.length_append]; omega
    exact okTB hL (by rw [p2, p3, p4, u64n_wrap64 pi hi, u64n_wrap64 pn hpn]) (decPane_2 r' g _ 0 ((phead q pf pl + 16 * 2).toUInt8) w1 h1 (by rw [hs]; rfl) p1 B pe pl_ h2 h3_ h4 _ _ _ _ hv hv2)
theorem there_back (a0 : Int) (fl : Bool) (n u b : Int) (t : ByteArray) (pt : Int) (pf pl : Bool) (pi pn : Int) (hn : -9223372036854775808 ≤ n ∧ n ≤ 9223372036854775807) (hu : 0 ≤ u ∧ u < 18446744073709551616) (hb : 0 ≤ b ∧ b < 18446744073709551616) (hi : -9223372036854775808 ≤ pi ∧ pi ≤ 9223372036854775807) (hpn : -9223372036854775808 ≤ pn ∧ pn ≤ 9223372036854775807) (hc : laws_codClean.f (0 + 5) a0 fl n u b t pt pf pl pi pn = some true) : ∃ e qi qn, TB a0 fl n u b t pt pf pl pi pn e qi qn ∧ qi = (if a0 = 6 ∧ pt = 3 then 0 else pi) ∧ qn = (if a0 = 6 ∧ pt = 3 then 0 else pn) := by
  have ho : ¬ (a0 < 0 ∨ 12 < a0) := fun h => by rw [clean_out 0 a0 fl n u b t pt pf pl pi pn h] at hc; cases hc
  obtain ⟨q, rfl⟩ := Int.eq_ofNat_of_zero_le (show 0 ≤ a0 by omega)
  match q, ho with
  | 0, _ =>
    obtain ⟨e, qi, qn, h, h1, h2⟩ := tb_0 fl n u b t pt pf pl pi pn hn hu hb hi hpn hc
    exact ⟨e, qi, qn, h, by rw [h1]; simp, by rw [h2]; simp⟩
  | 1, _ =>
    obtain ⟨e, qi, qn, h, h1, h2⟩ := tb_1 fl n u b t pt pf pl pi pn hn hu hb hi hpn hc
    exact ⟨e, qi, qn, h, by rw [h1]; simp, by rw [h2]; simp⟩
  | 2, _ =>
    obtain ⟨e, qi, qn, h, h1, h2⟩ := tb_2 fl n u b t pt pf pl pi pn hn hu hb hi hpn hc
    exact ⟨e, qi, qn, h, by rw [h1]; simp, by rw [h2]; simp⟩
  | 3, _ =>
    obtain ⟨e, qi, qn, h, h1, h2⟩ := tb_3 fl n u b t pt pf pl pi pn hn hu hb hi hpn hc
    exact ⟨e, qi, qn, h, by rw [h1]; simp, by rw [h2]; simp⟩
  | 4, _ =>
    obtain ⟨e, qi, qn, h, h1, h2⟩ := tb_4 fl n u b t pt pf pl pi pn hn hu hb hi hpn hc
    exact ⟨e, qi, qn, h, by rw [h1]; simp, by rw [h2]; simp⟩
  | 5, _ =>
    obtain ⟨e, qi, qn, h, h1, h2⟩ := tb_5 fl n u b t pt pf pl pi pn hn hu hb hi hpn hc
    exact ⟨e, qi, qn, h, by rw [h1]; simp, by rw [h2]; simp⟩
  | 6, _ =>
    obtain ⟨e, qi, qn, h, h1, h2⟩ := tb_6 fl n u b t pt pf pl pi pn hn hu hb hi hpn hc
    exact ⟨e, qi, qn, h, by rw [h1]; simp, by rw [h2]; simp⟩
  | 7, _ =>
    obtain ⟨e, qi, qn, h, h1, h2⟩ := tb_7 fl n u b t pt pf pl pi pn hn hu hb hi hpn hc
    exact ⟨e, qi, qn, h, by rw [h1]; simp, by rw [h2]; simp⟩
  | 8, _ =>
    obtain ⟨e, qi, qn, h, h1, h2⟩ := tb_8 fl n u b t pt pf pl pi pn hn hu hb hi hpn hc
    exact ⟨e, qi, qn, h, by rw [h1]; simp, by rw [h2]; simp⟩
  | 9, _ =>
    obtain ⟨e, qi, qn, h, h1, h2⟩ := tb_9 fl n u b t pt pf pl pi pn hn hu hb hi hpn hc
    exact ⟨e, qi, qn, h, by rw [h1]; simp, by rw [h2]; simp⟩
  | 10, _ =>
    obtain ⟨e, qi, qn, h, h1, h2⟩ := tb_10 fl n u b t pt pf pl pi pn hn hu hb hi hpn hc
    exact ⟨e, qi, qn, h, by rw [h1]; simp, by rw [h2]; simp⟩
  | 11, _ =>
    obtain ⟨e, qi, qn, h, h1, h2⟩ := tb_11 fl n u b t pt pf pl pi pn hn hu hb hi hpn hc
    exact ⟨e, qi, qn, h, by rw [h1]; simp, by rw [h2]; simp⟩
  | 12, _ =>
    obtain ⟨e, qi, qn, h, h1, h2⟩ := tb_12 fl n u b t pt pf pl pi pn hn hu hb hi hpn hc
    exact ⟨e, qi, qn, h, by rw [h1]; simp, by rw [h2]; simp⟩
  | q + 13, ho => exact absurd (by omega) ho
end Go.Proofs.YtgdbeiadlgkedaaDoor
namespace Go.Proofs.YtgdbeiadlgkedaaDoor.PFnDecode
open Go.RowKit Go.Proofs.YtgdbeiadlgkedaaDoorW.PrintWords Go.Proofs.YtgdbeiadlgkedaaDoorW.PrintLast Go.Proofs.YtgdbeiadlgkedaaDoorW.PrintMore
attribute [local go_sem] max2_int min2_int max_two min_two max_three min_three max_four min_four
set_option linter.unusedVariables false
set_option linter.unusedSimpArgs false
def errW : Option Int → Value
  | none => .nilIface
  | some c => .iface 0 (.int .i64 c)
theorem errW_none : errW none = .nilIface := rfl
theorem errW_some (c : Int) : errW (some c) = .iface 0 (.int .i64 c) := rfl
end Go.Proofs.YtgdbeiadlgkedaaDoor.PFnDecode
set_option linter.unusedVariables false
set_option linter.unusedSimpArgs false
namespace Go.Proofs.YtgdbeiadlgkedaaDoor
open Go.RowKit PFnEncode Go.Proofs.YtgdbeiadlgkedaaDoorW.PrintWords Go.Proofs.YtgdbeiadlgkedaaDoorW.PrintLast Go.Proofs.YtgdbeiadlgkedaaDoorW.PrintMore
theorem eqA35 (d : Nat) (w : World) (x0 y0 : Int) (x1 y1 : Bool) (x2 y2 : Bool) (x3 y3 : Int) (x4 y4 : Int) :
    (Op.equalIn (d + 2) 35 (.agg #[.int .i64 x0, .bool x1, .bool x2, .int .i64 x3, .int .i64 x4]) (.agg #[.int .i64 y0, .bool y1, .bool y2, .int .i64 y3, .int .i64 y4])).run Tryd.prog w = .ok (x0 == y0 && (x1 == y1 && (x2 == y2 && (x3 == y3 && (x4 == y4))))) w := by
  refine eqA_of Tryd.underlying35 (by kernel_rfl) ?_
  refine eqf_cons (by rfl) (by go_simp; rfl) (by go_simp; rfl) (by go_simp) ?_
  refine eqf_cons (by rfl) (by go_simp; rfl) (by go_simp; rfl) (by go_simp) ?_
  refine eqf_cons (by rfl) (by go_simp; rfl) (by go_simp; rfl) (by go_simp) ?_
  refine eqf_cons (by rfl) (by go_simp; rfl) (by go_simp; rfl) (by go_simp) ?_
  exact eqf_last (by rfl) (by go_simp; rfl) (by go_simp; rfl) (by go_simp)
theorem eqA37 (d : Nat) (w : World) (x0 y0 : Int) (x1 y1 : Bool) (x2 y2 : Int) (x3 y3 : Int) (x4 y4 : Int) (x5 y5 : ByteArray) (x6 y6 : Int) (x7 y7 : Bool) (x8 y8 : Bool) (x9 y9 : Int) (x10 y10 : Int) :
    (Op.equalIn (d + 3) 37 (.agg #[.int .i64 x0, .bool x1, .int .i64 x2, .int .u64 x3, .int .u64 x4, .string x5, .int .i64 x6, .bool x7, .bool x8, .int .i64 x9, .int .i64 x10]) (.agg #[.int .i64 y0, .bool y1, .int .i64 y2, .int .u64 y3, .int .u64 y4, .string y5, .int .i64 y6, .bool y7, .bool y8, .int .i64 y9, .int .i64 y10])).run Tryd.prog w = .ok (x0 == y0 && (x1 == y1 && (x2 == y2 && (x3 == y3 && (x4 == y4 && (x5.toList == y5.toList && ((x6 == y6 && (x7 == y7 && (x8 == y8 && (x9 == y9 && (x10 == y10)))))))))))) w := by
  refine eqA_of Tryd.underlying37 (by kernel_rfl) ?_
  refine eqf_cons (by rfl) (by go_simp; rfl) (by go_simp; rfl) (by go_simp) ?_
  refine eqf_cons (by rfl) (by go_simp; rfl) (by go_simp; rfl) (by go_simp) ?_
  refine eqf_cons (by rfl) (by go_simp; rfl) (by go_simp; rfl) (by go_simp) ?_
  refine eqf_cons (by rfl) (by go_simp; rfl) (by go_simp; rfl) (by go_simp) ?_
  refine eqf_cons (by rfl) (by go_simp; rfl) (by go_simp; rfl) (by go_simp) ?_
  refine eqf_cons (by rfl) (by go_simp; rfl) (by go_simp; rfl) (by go_simp) ?_
  exact eqf_last (by rfl) (by go_simp) (by go_simp) (eqA35 (d + 0) w _ _ _ _ _ _ _ _ _ _)
theorem eqV37 (a0 : Int) (fl : Bool) (n u b : Int) (tx : ByteArray) (pt : Int) (pf pl_ : Bool) (pi pn : Int) : ∀ W : World, (Op.equalIn 10000 37 (.agg #[(.int .i64 a0), (.bool fl), (.int .i64 n), (.int .u64 u), (.int .u64 b), (.string tx), (.int .i64 pt), (.bool pf), (.bool pl_), (.int .i64 pi), (.int .i64 pn)]) (.agg #[(.int .i64 a0), (.bool fl), (.int .i64 n), (.int .u64 u), (.int .u64 b), (.string tx), (.int .i64 pt), (.bool pf), (.bool pl_), (.int .i64 pi), (.int .i64 pn)])).run Tryd.prog W = .ok true W := by
  intro W
  have h := eqA37 9997 W a0 a0 fl fl n n u u b b tx tx pt pt pf pf pl_ pl_ pi pi pn pn
  simp only [beq_self_eq_true, Bool.and_true, Bool.and_self] at h
  exact h
def DS (w0 : World) (b6 b7 : Nat) (c6 c7 : Array Value) (w' : World) : Prop := w'.heap[b6]? = some (.cells c6 41 (0, 0)) ∧ w'.heap[b7]? = some (.cells c7 26 (0, 0)) ∧ Below w0.heap.size w0 w'
theorem DS.step {w0 x y : World} {b6 b7 : Nat} {c6 c7 : Array Value} (h : DS w0 b6 b7 c6 c7 x) (hb : Below x.heap.size x y) : DS w0 b6 b7 c6 c7 y := ⟨blk_below h.1 hb, blk_below h.2.1 hb, below_then h.2.2 h.2.2.size hb⟩
def DT (w0 : World) (b6 b7 : Nat) (c0 c1 c2 c3 c4 c5 c6 c7 c8 c9 c10 c11 c12 d0 d1 d2 d3 d4 d5 d6 d7 d8 d9 d10 : Value) (w' : World) : Prop := w'.cell? ⟨b6, 0, none⟩ = some c0 ∧ w'.cell? ⟨b6, 1, none⟩ = some c1 ∧ w'.cell? ⟨b6, 2, none⟩ = some c2 ∧ w'.cell? ⟨b6, 3, none⟩ = some c3 ∧ w'.cell? ⟨b6, 4, none⟩ = some c4 ∧ w'.cell? ⟨b6, 5, none⟩ = some c5 ∧ w'.cell? ⟨b6, 6, none⟩ = some c6 ∧ w'.cell? ⟨b6, 7, none⟩ = some c7 ∧ w'.cell? ⟨b6, 8, none⟩ = some c8 ∧ w'.cell? ⟨b6, 9, none⟩ = some c9 ∧ w'.cell? ⟨b6, 10, none⟩ = some c10 ∧ w'.cell? ⟨b6, 11, none⟩ = some c11 ∧ w'.cell? ⟨b6, 12, none⟩ = some c12 ∧ w'.cell? ⟨b7, 0, none⟩ = some d0 ∧ w'.cell? ⟨b7, 1, none⟩ = some d1 ∧ w'.cell? ⟨b7, 2, none⟩ = some d2 ∧ w'.cell? ⟨b7, 3, none⟩ = some d3 ∧ w'.cell? ⟨b7, 4, none⟩ = some d4 ∧ w'.cell? ⟨b7, 5, none⟩ = some d5 ∧ w'.cell? ⟨b7, 6, none⟩ = some d6 ∧ w'.cell? ⟨b7, 7, none⟩ = some d7 ∧ w'.cell? ⟨b7, 8, none⟩ = some d8 ∧ w'.cell? ⟨b7, 9, none⟩ = some d9 ∧ w'.cell? ⟨b7, 10, none⟩ = some d10 ∧ Aside0 (DS w0 b6 b7 #[c0, c1, c2, c3, c4, c5, c6, c7, c8, c9, c10, c11, c12] #[d0, d1, d2, d3, d4, d5, d6, d7, d8, d9, d10] w')
theorem DT.of {w0 x : World} {b6 b7 : Nat} {c0 c1 c2 c3 c4 c5 c6 c7 c8 c9 c10 c11 c12 d0 d1 d2 d3 d4 d5 d6 d7 d8 d9 d10 : Value} (h : DS w0 b6 b7 #[c0, c1, c2, c3, c4, c5, c6, c7, c8, c9, c10, c11, c12] #[d0, d1, d2, d3, d4, d5, d6, d7, d8, d9, d10] x) : DT w0 b6 b7 c0 c1 c2 c3 c4 c5 c6 c7 c8 c9 c10 c11 c12 d0 d1 d2 d3 d4 d5 d6 d7 d8 d9 d10 x :=
  ⟨(blk_cell h.1 0).trans rfl, (blk_cell h.1 1).trans rfl, (blk_cell h.1 2).trans rfl, (blk_cell h.1 3).trans rfl, (blk_cell h.1 4).trans rfl, (blk_cell h.1 5).trans rfl, (blk_cell h.1 6).trans rfl, (blk_cell h.1 7).trans rfl, (blk_cell h.1 8).trans rfl, (blk_cell h.1 9).trans rfl, (blk_cell h.1 10).trans rfl, (blk_cell h.1 11).trans rfl, (blk_cell h.1 12).trans rfl, (blk_cell h.2.1 0).trans rfl, (blk_cell h.2.1 1).trans rfl, (blk_cell h.2.1 2).trans rfl, (blk_cell h.2.1 3).trans rfl, (blk_cell h.2.1 4).trans rfl, (blk_cell h.2.1 5).trans rfl, (blk_cell h.2.1 6).trans rfl, (blk_cell h.2.1 7).trans rfl, (blk_cell h.2.1 8).trans rfl, (blk_cell h.2.1 9).trans rfl, (blk_cell h.2.1 10).trans rfl, ⟨h⟩⟩
end Go.Proofs.YtgdbeiadlgkedaaDoor
namespace Go.Proofs.YtgdbeiadlgkedaaDoor.PFnThereBack
open Go.RowKit Go.Proofs.YtgdbeiadlgkedaaDoorW.PrintWords Go.Proofs.YtgdbeiadlgkedaaDoorW.PrintLast Go.Proofs.YtgdbeiadlgkedaaDoorW.PrintMore
attribute [local go_sem] max2_int min2_int max_two min_two max_three min_three max_four min_four
set_option linter.unusedVariables false
set_option linter.unusedSimpArgs false
def errW : Option Int → Value
  | none => .nilIface
  | some c => .iface 0 (.int .i64 c)
theorem errW_none : errW none = .nilIface := rfl
theorem errW_some (c : Int) : errW (some c) = .iface 0 (.int .i64 c) := rfl
structure S24 where
  f0 : Int
  f1 : Bool
  f2 : Bool
  f3 : Int
  f4 : Int
def z24 : S24 := ⟨(0 : Int), false, false, (0 : Int), (0 : Int)⟩
def k24 : Kd S24 := Kd.iso (Kd.pair (Kd.int .i64) (Kd.pair Kd.bool (Kd.pair Kd.bool (Kd.pair (Kd.int .i64) (Kd.int .i64))))) (fun x : S24 => (x.f0, x.f1, x.f2, x.f3, x.f4))
theorem k24_open {w : World} {x : S24} {cs : List Value} (h : k24.K w x cs) : cs = [.int .i64 x.f0, .bool x.f1, .bool x.f2, .int .i64 x.f3, .int .i64 x.f4] := by
  obtain ⟨_, _, rfl, rfl, ⟨_, _, rfl, rfl, ⟨_, _, rfl, rfl, ⟨_, _, rfl, rfl, rfl⟩⟩⟩⟩ := h
  exact rfl
theorem k24_mk (w : World) (x : S24)  : k24.K w x [.int .i64 x.f0, .bool x.f1, .bool x.f2, .int .i64 x.f3, .int .i64 x.f4] := ⟨[.int .i64 x.f0], [.bool x.f1, .bool x.f2, .int .i64 x.f3, .int .i64 x.f4], rfl, rfl, ⟨[.bool x.f1], [.bool x.f2, .int .i64 x.f3, .int .i64 x.f4], rfl, rfl, ⟨[.bool x.f2], [.int .i64 x.f3, .int .i64 x.f4], rfl, rfl, ⟨[.int .i64 x.f3], [.int .i64 x.f4], rfl, rfl, rfl⟩⟩⟩⟩
structure S26 where
  f0 : Int
  f1 : Bool
  f2 : Int
  f3 : Int
  f4 : Int
  f5 : ByteArray
  f6 : S24
def z26 : S26 := ⟨(0 : Int), false, (0 : Int), (0 : Int), (0 : Int), (⟨#[]⟩ : ByteArray), z24⟩
def k26 : Kd S26 := Kd.iso (Kd.pair (Kd.int .i64) (Kd.pair Kd.bool (Kd.pair (Kd.int .i64) (Kd.pair (Kd.int .u64) (Kd.pair (Kd.int .u64) (Kd.pair Kd.string k24)))))) (fun x : S26 => (x.f0, x.f1, x.f2, x.f3, x.f4, x.f5, x.f6))
theorem k26_open {w : World} {x : S26} {cs : List Value} (h : k26.K w x cs) : cs = [.int .i64 x.f0, .bool x.f1, .int .i64 x.f2, .int .u64 x.f3, .int .u64 x.f4, .string x.f5, .int .i64 x.f6.f0, .bool x.f6.f1, .bool x.f6.f2, .int .i64 x.f6.f3, .int .i64 x.f6.f4] := by
  obtain ⟨_, _, rfl, rfl, ⟨_, _, rfl, rfl, ⟨_, _, rfl, rfl, ⟨_, _, rfl, rfl, ⟨_, _, rfl, rfl, ⟨_, _, rfl, rfl, s6⟩⟩⟩⟩⟩⟩ := h
  obtain rfl := k24_open s6
  exact rfl
theorem k26_mk (w : World) (x : S26)  : k26.K w x [.int .i64 x.f0, .bool x.f1, .int .i64 x.f2, .int .u64 x.f3, .int .u64 x.f4, .string x.f5, .int .i64 x.f6.f0, .bool x.f6.f1, .bool x.f6.f2, .int .i64 x.f6.f3, .int .i64 x.f6.f4] := ⟨[.int .i64 x.f0], [.bool x.f1, .int .i64 x.f2, .int .u64 x.f3, .int .u64 x.f4, .string x.f5, .int .i64 x.f6.f0, .bool x.f6.f1, .bool x.f6.f2, .int .i64 x.f6.f3, .int .i64 x.f6.f4], rfl, rfl, ⟨[.bool x.f1], [.int .i64 x.f2, .int .u64 x.f3, .int .u64 x.f4, .string x.f5, .int .i64 x.f6.f0, .bool x.f6.f1, .bool x.f6.f2, .int .i64 x.f6.f3, .int .i64 x.f6.f4], rfl, rfl, ⟨[.int .i64 x.f2], [.int .u64 x.f3, .int .u64 x.f4, .string x.f5, .int .i64 x.f6.f0, .bool x.f6.f1, .bool x.f6.f2, .int .i64 x.f6.f3, .int .i64 x.f6.f4], rfl, rfl, ⟨[.int .u64 x.f3], [.int .u64 x.f4, .string x.f5, .int .i64 x.f6.f0, .bool x.f6.f1, .bool x.f6.f2, .int .i64 x.f6.f3, .int .i64 x.f6.f4], rfl, rfl, ⟨[.int .u64 x.f4], [.string x.f5, .int .i64 x.f6.f0, .bool x.f6.f1, .bool x.f6.f2, .int .i64 x.f6.f3, .int .i64 x.f6.f4], rfl, rfl, ⟨[.string x.f5], [.int .i64 x.f6.f0, .bool x.f6.f1, .bool x.f6.f2, .int .i64 x.f6.f3, .int .i64 x.f6.f4], rfl, rfl, (k24_mk w x.f6 )⟩⟩⟩⟩⟩⟩
def rd_T26 (xs : List S26) (i : Int) : S26 := xs.getD i.toNat z26
theorem at_T26 {w : World} {A : Option Addr} {n : Nat} {xs : List S26} (h : Kd.C k26 w A n xs) (i : Int) (h0 : 0 ≤ i) (h1 : i < n) : ∃ ad , A = some ad ∧ w.cell? (ad.add (i.toNat * 11)) = some (.int .i64 (rd_T26 xs i).f0) ∧ w.cell? ⟨(ad.add (i.toNat * 11)).block, (ad.add (i.toNat * 11)).off + 1, none⟩ = some (.bool (rd_T26 xs i).f1) ∧ w.cell? ⟨(ad.add (i.toNat * 11)).block, (ad.add (i.toNat * 11)).off + 2, none⟩ = some (.int .i64 (rd_T26 xs i).f2) ∧ w.cell? ⟨(ad.add (i.toNat * 11)).block, (ad.add (i.toNat * 11)).off + 3, none⟩ = some (.int .u64 (rd_T26 xs i).f3) ∧ w.cell? ⟨(ad.add (i.toNat * 11)).block, (ad.add (i.toNat * 11)).off + 4, none⟩ = some (.int .u64 (rd_T26 xs i).f4) ∧ w.cell? ⟨(ad.add (i.toNat * 11)).block, (ad.add (i.toNat * 11)).off + 5, none⟩ = some (.string (rd_T26 xs i).f5) ∧ w.cell? ⟨(ad.add (i.toNat * 11)).block, (ad.add (i.toNat * 11)).off + 6, none⟩ = some (.int .i64 (rd_T26 xs i).f6.f0) ∧ w.cell? ⟨(ad.add (i.toNat * 11)).block, (ad.add (i.toNat * 11)).off + 7, none⟩ = some (.bool (rd_T26 xs i).f6.f1) ∧ w.cell? ⟨(ad.add (i.toNat * 11)).block, (ad.add (i.toNat * 11)).off + 8, none⟩ = some (.bool (rd_T26 xs i).f6.f2) ∧ w.cell? ⟨(ad.add (i.toNat * 11)).block, (ad.add (i.toNat * 11)).off + 9, none⟩ = some (.int .i64 (rd_T26 xs i).f6.f3) ∧ w.cell? ⟨(ad.add (i.toNat * 11)).block, (ad.add (i.toNat * 11)).off + 10, none⟩ = some (.int .i64 (rd_T26 xs i).f6.f4) := by
  obtain ⟨ad, c, e, _, hK, hc0⟩ := Kd.C_get h z26 i h0 h1
  have hc : ∀ j u, c[j]? = some u → w.cell? (ad.add (i.toNat * 11 + j)) = some u := hc0
  obtain rfl := k26_open hK
  exact ⟨ad, e, hc 0 _ rfl, by rw [← add_field _ _ 1 (by omega)]; exact hc 1 _ rfl, by rw [← add_field _ _ 2 (by omega)]; exact hc 2 _ rfl, by rw [← add_field _ _ 3 (by omega)]; exact hc 3 _ rfl, by rw [← add_field _ _ 4 (by omega)]; exact hc 4 _ rfl, by rw [← add_field _ _ 5 (by omega)]; exact hc 5 _ rfl, by rw [← add_field _ _ 6 (by omega)]; exact hc 6 _ rfl, by rw [← add_field _ _ 7 (by omega)]; exact hc 7 _ rfl, by rw [← add_field _ _ 8 (by omega)]; exact hc 8 _ rfl, by rw [← add_field _ _ 9 (by omega)]; exact hc 9 _ rfl, by rw [← add_field _ _ 10 (by omega)]; exact hc 10 _ rfl⟩
end Go.Proofs.YtgdbeiadlgkedaaDoor.PFnThereBack
