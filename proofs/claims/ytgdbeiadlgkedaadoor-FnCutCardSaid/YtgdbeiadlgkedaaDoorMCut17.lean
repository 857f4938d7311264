/- Contracts and plain laws, several texts in one. -/
import Derived.Test.YtgdbeiadlgkedaaDoorMCut9
import Derived.Test.YtgdbeiadlgkedaaDoorMCut11
import Derived.Test.YtgdbeiadlgkedaaDoorMCut12
import Derived.Test.YtgdbeiadlgkedaaDoorMCut13
import Derived.Test.YtgdbeiadlgkedaaDoorMCut14
import Derived.Test.YtgdbeiadlgkedaaDoorMCut15
import Derived.Test.YtgdbeiadlgkedaaDoorMCut16
set_option linter.unusedVariables false
set_option linter.unusedSimpArgs false
namespace Go.Proofs.YtgdbeiadlgkedaaDoor
open Go.RowKit PFnEncode Go.Proofs.YtgdbeiadlgkedaaDoorW.PrintWords Go.Proofs.YtgdbeiadlgkedaaDoorW.PrintLast Go.Proofs.YtgdbeiadlgkedaaDoorW.PrintMore
theorem pre_list (l : List UInt8) (m : Nat) : ((⟨l.toArray⟩ : ByteArray).extract 0 m).data.toList = l.take m := by
  rw [Lib.extract_data]; simp
theorem pre_size (l : List UInt8) (m : Nat) : ((⟨l.toArray⟩ : ByteArray).extract 0 m).size ≤ l.length := by
  rw [ByteArray.size_extract]; simp [ByteArray.size]; omega
theorem arr_size (l : List UInt8) : (⟨l.toArray⟩ : ByteArray).size = l.length := rfl
theorem mod_take (l : List UInt8) (c : Nat) (h : 0 < l.length) : (l.take (c % (⟨l.toArray⟩ : ByteArray).size)).length < l.length := by
  rw [arr_size]; have := Nat.mod_lt c h; rw [List.length_take]; omega
theorem u8_16 (a : Nat) (h : a < 256) : (a.toUInt8).toNat = a := u8_toNat h
theorem pane_cut (t : Nat) (ht : t < 4) (f l : Bool) (i n : Int) (m : Nat) (hm : m < (pbytes t f l i n).length) (B : Nat) (pe pl : Addr) :
    ∀ (r g : Nat) (w1 : World), Rd r g ((pbytes t f l i n).take m) 0 w1 → Env B pe pl w1 → B ≤ r → B ≤ w1.heap.size → Calls Tryd.prog 53 #[rdI r] w1 fun e w' => ∃ ev, e = .returned (.tuple #[.agg #[.int .u8 0, .bool false, .bool false, .int .i64 0, .int .i64 0], ev]) ∧ Fell r g ((pbytes t f l i n).take m) w1 w' ev := by
  intro r g w1 hrd he hBr hB
  have hp := phead_lt ht f l
  rcases Nat.eq_zero_or_pos m with h0 | h0
  · exact decPane_eof r g _ 0 w1 hrd (by rw [h0]; simp) B pe pl he hBr hB
  obtain ⟨m, rfl⟩ : ∃ m', m = m' + 1 := ⟨m - 1, by omega⟩
  unfold pbytes at *
  by_cases c1 : (i = 0 ∧ n = 0) ∨ t = 3
  · rw [if_pos c1] at hm; simp at hm
  rw [if_neg c1] at hm hrd ⊢
  by_cases c2 : i = n ∨ t = 0
  · rw [if_pos c2] at hm hrd ⊢
    rw [List.take_succ_cons] at hrd ⊢
    refine decPane_1b r g _ 0 (phead t f l + 16).toUInt8 w1 hrd rfl (by rw [u8_16 _ (by omega)]; omega) B pe pl he hBr hB ?_
    show vrd 0 0 (List.take m (Lib.uvarint (u64n i))) = none
    exact vrd_cut _ _ 0 0 m (Nat.le_refl _) (by simpa using hm)
  · rw [if_neg c2] at hm hrd ⊢
    rw [List.take_succ_cons] at hrd ⊢
    have h2 : (phead t f l + 32).toUInt8.toNat / 16 = 2 := by rw [u8_16 _ (by omega)]; omega
    by_cases c3 : m < (Lib.uvarint (u64n i)).length
    · refine decPane_2b r g _ 0 (phead t f l + 32).toUInt8 w1 hrd rfl h2 B pe pl he hBr hB ?_
      show vrd 0 0 (List.take m (Lib.uvarint (u64n i) ++ Lib.uvarint (u64n n))) = none
      rw [List.take_append_of_le_length (by omega)]
      exact vrd_cut _ _ 0 0 m (Nat.le_refl _) c3
    · have e1 : List.take m (Lib.uvarint (u64n i) ++ Lib.uvarint (u64n n)) = Lib.uvarint (u64n i) ++ List.take (m - (Lib.uvarint (u64n i)).length) (Lib.uvarint (u64n n)) := by
        rw [List.take_append, List.take_of_length_le (by omega)]
      refine decPane_2c r g _ 0 (phead t f l + 32).toUInt8 w1 hrd rfl h2 B pe pl he hBr hB (u64n i) (Lib.uvarint (u64n i)).length ?_ ?_
      · show vrd 0 0 (List.take m (Lib.uvarint (u64n i) ++ Lib.uvarint (u64n n))) = _
        rw [e1]; exact vrd_uv _ (u64n_lt i)
      · show vrd 0 0 (List.drop (0 + 1 + (Lib.uvarint (u64n i)).length) ((phead t f l + 32).toUInt8 :: List.take m (Lib.uvarint (u64n i) ++ Lib.uvarint (u64n n)))) = none
        rw [show 0 + 1 + (Lib.uvarint (u64n i)).length = (Lib.uvarint (u64n i)).length + 1 by omega, List.drop_succ_cons, e1, List.drop_left]
        exact vrd_cut _ _ 0 0 _ (Nat.le_refl _) (by simp at hm; omega)
theorem text_cut (t : List UInt8) (ht : t.length ≤ 1000000) (m : Nat) (hm : m < (Lib.uvarint t.length ++ t).length) :
    vrd 0 0 ((Lib.uvarint t.length ++ t).take m) = none ∨ ∃ v k, vrd 0 0 ((Lib.uvarint t.length ++ t).take m) = some (v, k) ∧ v ≤ 1000000 ∧ ((Lib.uvarint t.length ++ t).take m).length < k + v := by
  by_cases c : m < (Lib.uvarint t.length).length
  · left
    rw [List.take_append_of_le_length (by omega)]
    exact vrd_cut _ _ 0 0 m (Nat.le_refl _) c
  · right
    have e1 : List.take m (Lib.uvarint t.length ++ t) = Lib.uvarint t.length ++ List.take (m - (Lib.uvarint t.length).length) t := by
      rw [List.take_append, List.take_of_length_le (by omega)]
    refine ⟨t.length, (Lib.uvarint t.length).length, by rw [e1]; exact vrd_uv _ (by omega), ht, ?_⟩
    rw [List.length_append] at hm
    rw [List.length_take, List.length_append]; omega
theorem uv_pos (n : Nat) : 0 < (Lib.uvarint n).length := by
  by_cases h : n < 128
  · rw [Lib.uvarint_small h]; simp
  · rw [Lib.uvarint_big (by omega)]; simp
theorem pb_pos (t : Nat) (f l : Bool) (i n : Int) : 0 < (pbytes t f l i n).length := by
  unfold pbytes; split
  · simp
  · split <;> simp
theorem pb_le (t : Nat) (f l : Bool) (i n : Int) : (pbytes t f l i n).length ≤ 2147483700 := by
  have h1 := Lib.uvarint_length64 (u64n_lt i)
  have h2 := Lib.uvarint_length64 (u64n_lt n)
  unfold pbytes; split
  · simp
  · split
    · rw [List.length_cons]; omega
    · rw [List.length_cons, List.length_append]; omega
theorem cut_row (pe pl_ : Addr) (a0 : Int) (fl : Bool) (n u b : Int) (t : ByteArray) (pt : Int) (pf pl : Bool) (pi pn : Int) (c : Nat) (hc16 : c < 65536) (w : World) (hn : -9223372036854775808 ≤ n ∧ n ≤ 9223372036854775807) (hu : 0 ≤ u ∧ u < 18446744073709551616) (hb : 0 ≤ b ∧ b < 18446744073709551616) (he : Env w.heap.size pe pl_ w) :
    Calls Tryd.prog 4 #[.agg #[.int .i64 a0, .bool fl, .int .i64 n, .int .u64 u, .int .u64 b, .string t, .int .i64 pt, .bool pf, .bool pl, .int .i64 pi, .int .i64 pn], .int .u16 c] w fun e w' => e = .returned (.bool true) ∧ Below w.heap.size w w' := by
  by_cases h : 2147483647 < t.size
  · exact cut_big a0 fl n u b t pt pf pl pi pn c w h
  by_cases ho : a0 < 0 ∨ 12 < a0
  · exact cut_un pe pl_ a0 fl n u b t pt pf pl pi pn c w he h 5 (clean_out 0 a0 fl n u b t pt pf pl pi pn ho)
  obtain ⟨q, rfl⟩ := Int.eq_ofNat_of_zero_le (show 0 ≤ a0 by omega)
  match q, ho with
  | 0, _ =>
    have hc := clean_0 0 fl n u b t pt pf pl pi pn
    rcases dsplit hc with ⟨hc, hf⟩ | hc
    rotate_left
    · exact cut_un pe pl_ 0 fl n u b t pt pf pl pi pn c w he h 5 hc
    · have hlen : 0 < ([if fl then 1 else 0] : List UInt8).length ∧ ([if fl then 1 else 0] : List UInt8).length ≤ 2147483700 := ⟨by simp, by simp⟩
      have hmt := mod_take ([if fl then 1 else 0] : List UInt8) c hlen.1
      exact cut_ok pe pl_ 0 fl n u b t pt pf pl pi pn c w he h 5 hc ⟨([if fl then 1 else 0] : List UInt8).toArray⟩ hlen.1 hlen.2 hc16 (fun W => specEnc_0 fl n u b t pt pf pl pi pn W) (fun W hE hB => decVal_0_eof w.heap.size pe pl_ _ W (by have := pre_size ([if fl then 1 else 0] : List UInt8) (c % (⟨([if fl then 1 else 0] : List UInt8).toArray⟩ : ByteArray).size); have := hlen.2; omega) hE hB (by rw [pre_list]; simp at hmt ⊢; omega))
  | 1, _ =>
    have hc := clean_1 0 fl n u b t pt pf pl pi pn
    rcases dsplit hc with ⟨hc, hf⟩ | hc
    rotate_left
    · exact cut_un pe pl_ 1 fl n u b t pt pf pl pi pn c w he h 5 hc
    · have hlen : 0 < ([(n % 256).toNat.toUInt8]).length ∧ ([(n % 256).toNat.toUInt8]).length ≤ 2147483700 := ⟨by simp, by simp⟩
      have hmt := mod_take ([(n % 256).toNat.toUInt8]) c hlen.1
      exact cut_ok pe pl_ 1 fl n u b t pt pf pl pi pn c w he h 5 hc ⟨([(n % 256).toNat.toUInt8]).toArray⟩ hlen.1 hlen.2 hc16 (fun W => specEnc_1 fl n u b t pt pf pl pi pn W) (fun W hE hB => decVal_1_bad w.heap.size pe pl_ _ W (by have := pre_size ([(n % 256).toNat.toUInt8]) (c % (⟨([(n % 256).toNat.toUInt8]).toArray⟩ : ByteArray).size); have := hlen.2; omega) hE hB (by rw [pre_list]; simp at hmt ⊢; omega))
  | 3, _ =>
    have hc := clean_3 0 fl n u b t pt pf pl pi pn
    rcases dsplit hc with ⟨hc, hf⟩ | hc
    rotate_left
    · exact cut_un pe pl_ 3 fl n u b t pt pf pl pi pn c w he h 5 hc
    · have hlen : 0 < (Lib.beBytes 8 b.toNat).length ∧ (Lib.beBytes 8 b.toNat).length ≤ 2147483700 := ⟨by rw [Lib.beBytes_length]; decide, by rw [Lib.beBytes_length]; decide⟩
      have hmt := mod_take (Lib.beBytes 8 b.toNat) c hlen.1
      exact cut_ok pe pl_ 3 fl n u b t pt pf pl pi pn c w he h 5 hc ⟨(Lib.beBytes 8 b.toNat).toArray⟩ hlen.1 hlen.2 hc16 (fun W => specEnc_3 fl n u b t pt pf pl pi pn hb.1 W) (fun W hE hB => decVal_3_bad w.heap.size pe pl_ _ W (by have := pre_size (Lib.beBytes 8 b.toNat) (c % (⟨(Lib.beBytes 8 b.toNat).toArray⟩ : ByteArray).size); have := hlen.2; omega) hE hB (by rw [pre_list]; rw [Lib.beBytes_length] at hmt; omega))
  | 4, _ =>
    have hc := clean_4 0 fl n u b t pt pf pl pi pn
    rcases dsplit hc with ⟨hc, hf⟩ | hc
    rotate_left
    · exact cut_un pe pl_ 4 fl n u b t pt pf pl pi pn c w he h 5 hc
    · have hlen : 0 < (Lib.beBytes 8 (n + 9223372036854775808).toNat).length ∧ (Lib.beBytes 8 (n + 9223372036854775808).toNat).length ≤ 2147483700 := ⟨by rw [Lib.beBytes_length]; decide, by rw [Lib.beBytes_length]; decide⟩
      have hmt := mod_take (Lib.beBytes 8 (n + 9223372036854775808).toNat) c hlen.1
      exact cut_ok pe pl_ 4 fl n u b t pt pf pl pi pn c w he h 5 hc ⟨(Lib.beBytes 8 (n + 9223372036854775808).toNat).toArray⟩ hlen.1 hlen.2 hc16 (fun W => specEnc_4 fl n u b t pt pf pl pi pn hn.1 hn.2 W) (fun W hE hB => decVal_4_bad w.heap.size pe pl_ _ W (by have := pre_size (Lib.beBytes 8 (n + 9223372036854775808).toNat) (c % (⟨(Lib.beBytes 8 (n + 9223372036854775808).toNat).toArray⟩ : ByteArray).size); have := hlen.2; omega) hE hB (by rw [pre_list]; rw [Lib.beBytes_length] at hmt; omega))
  | 5, _ =>
    have hc := clean_5 0 fl n u b t pt pf pl pi pn
    rcases dsplit hc with ⟨hc, hf⟩ | hc
    rotate_left
    · exact cut_un pe pl_ 5 fl n u b t pt pf pl pi pn c w he h 5 hc
    · have hlen : 0 < (Lib.beBytes 4 (wrap32 n % 4294967296).toNat).length ∧ (Lib.beBytes 4 (wrap32 n % 4294967296).toNat).length ≤ 2147483700 := ⟨by rw [Lib.beBytes_length]; decide, by rw [Lib.beBytes_length]; decide⟩
      have hmt := mod_take (Lib.beBytes 4 (wrap32 n % 4294967296).toNat) c hlen.1
      exact cut_ok pe pl_ 5 fl n u b t pt pf pl pi pn c w he h 5 hc ⟨(Lib.beBytes 4 (wrap32 n % 4294967296).toNat).toArray⟩ hlen.1 hlen.2 hc16 (fun W => specEnc_5 fl n u b t pt pf pl pi pn W) (fun W hE hB => decVal_5_bad w.heap.size pe pl_ _ W (by have := pre_size (Lib.beBytes 4 (wrap32 n % 4294967296).toNat) (c % (⟨(Lib.beBytes 4 (wrap32 n % 4294967296).toNat).toArray⟩ : ByteArray).size); have := hlen.2; omega) hE hB (by rw [pre_list]; rw [Lib.beBytes_length] at hmt; omega))
  | 7, _ =>
    have hc := clean_7 0 fl n u b t pt pf pl pi pn
    rcases dsplit hc with ⟨hc, hf⟩ | hc
    rotate_left
    · exact cut_un pe pl_ 7 fl n u b t pt pf pl pi pn c w he h 5 hc
    · have hlen : 0 < (Lib.beBytes 4 (b % 4294967296).toNat).length ∧ (Lib.beBytes 4 (b % 4294967296).toNat).length ≤ 2147483700 := ⟨by rw [Lib.beBytes_length]; decide, by rw [Lib.beBytes_length]; decide⟩
      have hmt := mod_take (Lib.beBytes 4 (b % 4294967296).toNat) c hlen.1
      exact cut_ok pe pl_ 7 fl n u b t pt pf pl pi pn c w he h 5 hc ⟨(Lib.beBytes 4 (b % 4294967296).toNat).toArray⟩ hlen.1 hlen.2 hc16 (fun W => specEnc_7 fl n u b t pt pf pl pi pn hb.1 W) (fun W hE hB => decVal_7_bad w.heap.size pe pl_ _ W (by have := pre_size (Lib.beBytes 4 (b % 4294967296).toNat) (c % (⟨(Lib.beBytes 4 (b % 4294967296).toNat).toArray⟩ : ByteArray).size); have := hlen.2; omega) hE hB (by rw [pre_list]; rw [Lib.beBytes_length] at hmt; omega))
  | 9, _ =>
    have hc := clean_9 0 fl n u b t pt pf pl pi pn
    rcases dsplit hc with ⟨hc, hf⟩ | hc
    rotate_left
    · exact cut_un pe pl_ 9 fl n u b t pt pf pl pi pn c w he h 5 hc
    · have hlen : 0 < (Lib.beBytes 4 (u % 4294967296).toNat).length ∧ (Lib.beBytes 4 (u % 4294967296).toNat).length ≤ 2147483700 := ⟨by rw [Lib.beBytes_length]; decide, by rw [Lib.beBytes_length]; decide⟩
      have hmt := mod_take (Lib.beBytes 4 (u % 4294967296).toNat) c hlen.1
      exact cut_ok pe pl_ 9 fl n u b t pt pf pl pi pn c w he h 5 hc ⟨(Lib.beBytes 4 (u % 4294967296).toNat).toArray⟩ hlen.1 hlen.2 hc16 (fun W => specEnc_9 fl n u b t pt pf pl pi pn hu.1 W) (fun W hE hB => decVal_9_bad w.heap.size pe pl_ _ W (by have := pre_size (Lib.beBytes 4 (u % 4294967296).toNat) (c % (⟨(Lib.beBytes 4 (u % 4294967296).toNat).toArray⟩ : ByteArray).size); have := hlen.2; omega) hE hB (by rw [pre_list]; rw [Lib.beBytes_length] at hmt; omega))
  | 10, _ =>
    have hc := clean_10 0 fl n u b t pt pf pl pi pn
    rcases dsplit hc with ⟨hc, hf⟩ | hc
    rotate_left
    · exact cut_un pe pl_ 10 fl n u b t pt pf pl pi pn c w he h 5 hc
    · have hlen : 0 < (Lib.beBytes 8 u.toNat).length ∧ (Lib.beBytes 8 u.toNat).length ≤ 2147483700 := ⟨by rw [Lib.beBytes_length]; decide, by rw [Lib.beBytes_length]; decide⟩
      have hmt := mod_take (Lib.beBytes 8 u.toNat) c hlen.1
      exact cut_ok pe pl_ 10 fl n u b t pt pf pl pi pn c w he h 5 hc ⟨(Lib.beBytes 8 u.toNat).toArray⟩ hlen.1 hlen.2 hc16 (fun W => specEnc_10 fl n u b t pt pf pl pi pn hu.1 W) (fun W hE hB => decVal_10_bad w.heap.size pe pl_ _ W (by have := pre_size (Lib.beBytes 8 u.toNat) (c % (⟨(Lib.beBytes 8 u.toNat).toArray⟩ : ByteArray).size); have := hlen.2; omega) hE hB (by rw [pre_list]; rw [Lib.beBytes_length] at hmt; omega))
  | 11, _ =>
    have hc := clean_11 0 fl n u b t pt pf pl pi pn
    rcases dsplit hc with ⟨hc, hf⟩ | hc
    rotate_left
    · exact cut_un pe pl_ 11 fl n u b t pt pf pl pi pn c w he h 5 hc
    · have hlen : 0 < (Lib.uvarint (u64of n)).length ∧ (Lib.uvarint (u64of n)).length ≤ 2147483700 := ⟨uv_pos _, by have := Lib.uvarint_length64 (u64of_lt n); omega⟩
      have hmt := mod_take (Lib.uvarint (u64of n)) c hlen.1
      exact cut_ok pe pl_ 11 fl n u b t pt pf pl pi pn c w he h 5 hc ⟨(Lib.uvarint (u64of n)).toArray⟩ hlen.1 hlen.2 hc16 (fun W => specEnc_11 fl n u b t pt pf pl pi pn W) (fun W hE hB => decVal_11_bad w.heap.size pe pl_ _ W (by have := pre_size (Lib.uvarint (u64of n)) (c % (⟨(Lib.uvarint (u64of n)).toArray⟩ : ByteArray).size); have := hlen.2; omega) hE hB (by rw [pre_list, List.take_eq_take_min]; exact vrd_cut _ _ 0 0 _ (Nat.le_refl _) (by rw [List.length_take] at hmt; exact hmt)))
  | 12, _ =>
    have hc := clean_12 0 fl n u b t pt pf pl pi pn
    rcases dsplit hc with ⟨hc, hf⟩ | hc
    rotate_left
    · exact cut_un pe pl_ 12 fl n u b t pt pf pl pi pn c w he h 5 hc
    · have hlen : 0 < (Lib.uvarint u.toNat).length ∧ (Lib.uvarint u.toNat).length ≤ 2147483700 := ⟨uv_pos _, by have := Lib.uvarint_length64 (x := u.toNat) (by omega); omega⟩
      have hmt := mod_take (Lib.uvarint u.toNat) c hlen.1
      exact cut_ok pe pl_ 12 fl n u b t pt pf pl pi pn c w he h 5 hc ⟨(Lib.uvarint u.toNat).toArray⟩ hlen.1 hlen.2 hc16 (fun W => specEnc_12 fl n u b t pt pf pl pi pn hu.1 hu.2 W) (fun W hE hB => decVal_12_bad w.heap.size pe pl_ _ W (by have := pre_size (Lib.uvarint u.toNat) (c % (⟨(Lib.uvarint u.toNat).toArray⟩ : ByteArray).size); have := hlen.2; omega) hE hB (by rw [pre_list, List.take_eq_take_min]; exact vrd_cut _ _ 0 0 _ (Nat.le_refl _) (by rw [List.length_take] at hmt; exact hmt)))
  | 2, _ =>
    have hc := clean_2 0 fl n u b t pt pf pl pi pn
    rcases dsplit hc with ⟨hc, hf⟩ | hc
    rotate_left
    · exact cut_un pe pl_ 2 fl n u b t pt pf pl pi pn c w he h 5 hc
    · have hsz : t.size ≤ 300 := by have := hf.2; omega
      have htl : t.data.toList.length = t.size := by rw [Array.length_toList]; rfl
      have hlen : 0 < (Lib.uvarint t.size ++ t.data.toList).length ∧ (Lib.uvarint t.size ++ t.data.toList).length ≤ 2147483700 := ⟨by rw [List.length_append]; have := uv_pos t.size; omega, by rw [List.length_append, htl]; have := Lib.uvarint_length64 (x := t.size) (by omega); omega⟩
      have hmt := mod_take (Lib.uvarint t.size ++ t.data.toList) c hlen.1
      exact cut_ok pe pl_ 2 fl n u b t pt pf pl pi pn c w he h 5 hc ⟨(Lib.uvarint t.size ++ t.data.toList).toArray⟩ hlen.1 hlen.2 hc16 (fun W => specEnc_2 fl n u b t pt pf pl pi pn (by omega) W) (fun W hE hB => decVal_2_bad w.heap.size pe pl_ _ W (by have := pre_size (Lib.uvarint t.size ++ t.data.toList) (c % (⟨(Lib.uvarint t.size ++ t.data.toList).toArray⟩ : ByteArray).size); have := hlen.2; omega) hE hB (by rw [pre_list, ← htl]; exact text_cut _ (by omega) _ (by rw [htl]; rw [arr_size]; exact Nat.mod_lt _ hlen.1)))
  | 8, _ =>
    have hc := clean_8 0 fl n u b t pt pf pl pi pn
    rcases dsplit hc with ⟨hc, hf⟩ | hc
    rotate_left
    · exact cut_un pe pl_ 8 fl n u b t pt pf pl pi pn c w he h 5 hc
    · have hsz : t.size ≤ 300 := by have := hf.2; omega
      have htl : t.data.toList.length = t.size := by rw [Array.length_toList]; rfl
      have hlen : 0 < (Lib.uvarint t.size ++ t.data.toList).length ∧ (Lib.uvarint t.size ++ t.data.toList).length ≤ 2147483700 := ⟨by rw [List.length_append]; have := uv_pos t.size; omega, by rw [List.length_append, htl]; have := Lib.uvarint_length64 (x := t.size) (by omega); omega⟩
      have hmt := mod_take (Lib.uvarint t.size ++ t.data.toList) c hlen.1
      exact cut_ok pe pl_ 8 fl n u b t pt pf pl pi pn c w he h 5 hc ⟨(Lib.uvarint t.size ++ t.data.toList).toArray⟩ hlen.1 hlen.2 hc16 (fun W => specEnc_8 fl n u b t pt pf pl pi pn (by omega) W) (fun W hE hB => decVal_8_bad w.heap.size pe pl_ _ W (by have := pre_size (Lib.uvarint t.size ++ t.data.toList) (c % (⟨(Lib.uvarint t.size ++ t.data.toList).toArray⟩ : ByteArray).size); have := hlen.2; omega) hE hB (by rw [pre_list, ← htl]; exact text_cut _ (by omega) _ (by rw [htl]; rw [arr_size]; exact Nat.mod_lt _ hlen.1)))
  | 6, _ =>
    have hc := clean_6 0 fl n u b t pt pf pl pi pn
    rcases dsplit hc with ⟨hc, hf⟩ | hc
    rotate_left
    · exact cut_un pe pl_ 6 fl n u b t pt pf pl pi pn c w he h 5 hc
    · replace hf := hf.2
      obtain ⟨q, rfl⟩ := Int.eq_ofNat_of_zero_le hf.1
      have hq : q < 4 := by have := hf.2.1; omega
      have hlen : 0 < (pbytes q pf pl pi pn).length ∧ (pbytes q pf pl pi pn).length ≤ 2147483700 := ⟨pb_pos _ _ _ _ _, pb_le _ _ _ _ _⟩
      have hmt := mod_take (pbytes q pf pl pi pn) c hlen.1
      exact cut_ok pe pl_ 6 fl n u b t q pf pl pi pn c w he h 5 hc ⟨(pbytes q pf pl pi pn).toArray⟩ hlen.1 hlen.2 hc16 (fun W => specEnc_6 fl n u b t q pf pl pi pn hq W) (fun W hE hB => decVal_6_bad w.heap.size pe pl_ _ W (by have := pre_size (pbytes q pf pl pi pn) (c % (⟨(pbytes q pf pl pi pn).toArray⟩ : ByteArray).size); have := hlen.2; omega) hE hB (by rw [pre_list]; exact pane_cut q hq pf pl pi pn _ (by rw [arr_size]; exact Nat.mod_lt _ hlen.1) w.heap.size pe pl_))
  | q + 13, ho => exact absurd (by omega) ho
theorem cut_rowZ (pe pl_ : Addr) (a0 : Int) (fl : Bool) (n u b : Int) (t : ByteArray) (pt : Int) (pf pl : Bool) (pi pn : Int) (c : Int) (w : World) (hn : -9223372036854775808 ≤ n ∧ n ≤ 9223372036854775807) (hu : 0 ≤ u ∧ u < 18446744073709551616) (hb : 0 ≤ b ∧ b < 18446744073709551616) (hc0 : (Lit.int .u16 c).wf = true) (he : Env w.heap.size pe pl_ w) :
    Calls Tryd.prog 4 #[.agg #[.int .i64 a0, .bool fl, .int .i64 n, .int .u64 u, .int .u64 b, .string t, .int .i64 pt, .bool pf, .bool pl, .int .i64 pi, .int .i64 pn], .int .u16 c] w fun e w' => e = .returned (.bool true) ∧ Below w.heap.size w w' := by
  have hc : 0 ≤ c ∧ c ≤ 65535 := by
    have hmin : IntKind.u16.min = 0 := rfl
    have hmax : IntKind.u16.max = 65535 := rfl
    simp only [Lit.wf, Bool.and_eq_true, decide_eq_true_eq] at hc0
    omega
  obtain ⟨q, rfl⟩ := Int.eq_ofNat_of_zero_le hc.1
  exact cut_row pe pl_ a0 fl n u b t pt pf pl pi pn q (by omega) w hn hu hb he
end Go.Proofs.YtgdbeiadlgkedaaDoor
