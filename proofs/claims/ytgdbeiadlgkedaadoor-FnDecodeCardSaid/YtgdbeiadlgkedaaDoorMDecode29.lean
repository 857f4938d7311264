/- Contracts and plain laws, several texts in one. -/
import Derived.Test.YtgdbeiadlgkedaaDoorMDecode9
import Derived.Test.YtgdbeiadlgkedaaDoorMDecode10
import Derived.Test.YtgdbeiadlgkedaaDoorMDecode11
import Derived.Test.YtgdbeiadlgkedaaDoorMDecode12
import Derived.Test.YtgdbeiadlgkedaaDoorMDecode13
import Derived.Test.YtgdbeiadlgkedaaDoorMDecode14
import Derived.Test.YtgdbeiadlgkedaaDoorMDecode15
import Derived.Test.YtgdbeiadlgkedaaDoorMDecode16
import Derived.Test.YtgdbeiadlgkedaaDoorMDecode17
import Derived.Test.YtgdbeiadlgkedaaDoorMDecode18
import Derived.Test.YtgdbeiadlgkedaaDoorMDecode19
import Derived.Test.YtgdbeiadlgkedaaDoorMDecode20
import Derived.Test.YtgdbeiadlgkedaaDoorMDecode21
import Derived.Test.YtgdbeiadlgkedaaDoorMDecode23
import Derived.Test.YtgdbeiadlgkedaaDoorMDecode24
import Derived.Test.YtgdbeiadlgkedaaDoorMDecode26
import Derived.Test.YtgdbeiadlgkedaaDoorMDecode27
import Derived.Test.YtgdbeiadlgkedaaDoorMDecode28
set_option linter.unusedVariables false
set_option linter.unusedSimpArgs false
namespace Go.Proofs.YtgdbeiadlgkedaaDoor
open Go.RowKit PFnEncode Go.Proofs.YtgdbeiadlgkedaaDoorW.PrintWords Go.Proofs.YtgdbeiadlgkedaaDoorW.PrintLast Go.Proofs.YtgdbeiadlgkedaaDoorW.PrintMore
set_option maxHeartbeats 4000000 in
set_option maxRecDepth 100000 in
theorem pr_empty (s : ByteArray) (w : World) (h : s.data.toList = []) :
    Calls Tryd.prog 67 #[.string s] w fun e w' => e = .returned (.tuple #[.agg #[(.int .i64 0), (.bool false), (.bool false), (.int .i64 0), (.int .i64 0)], .int .i64 0, .int .i64 1]) ∧ Below w.heap.size w w' := by
  have e1 : s.toList = [] := by rw [ByteArray.toList_eq]; exact h
  have e2 : s.toList.isEmpty = true := by rw [e1]; rfl
  have e3 : s = ⟨#[]⟩ := str_ext0 h
  subst e3
  clear e1 e2 h
  go_enter Tryd.func67, Tryd.ntmps67
  go_wp2
  have hz := heap_alloc_new w (.cells #[.int .i64 0, .bool false, .bool false, .int .i64 0, .int .i64 0] 35)
  have HB := Lib.hid (below_alloc (Below.refl w.heap.size w) (.cells #[.int .i64 0, .bool false, .bool false, .int .i64 0, .int .i64 0] 35))
  generalize w.alloc (.cells #[.int .i64 0, .bool false, .bool false, .int .i64 0, .int .i64 0] 35) = X at hz HB ⊢
  obtain ⟨c0, c1, c2, c3, c4⟩ := laid5 hz
  exact bodyPost_ret (v := .tuple #[.agg #[.int .i64 0, .bool false, .bool false, .int .i64 0, .int .i64 0], .int .i64 0, .int .i64 1]) (by simp [results, Tryd.results67, go_sem, c0, c1, c2, c3, c4]; try rfl) rfl ⟨rfl, HB.out⟩
theorem be_one (x : UInt8) (r : List UInt8) : Lib.beNat ((x :: r).take 1) = x.toNat := by simp [Lib.beNat, Lib.beFrom]
theorem len_size (t : ByteArray) : t.data.toList.length = t.size := by rw [Array.length_toList]; rfl
theorem u8_wrap (x : UInt8) : wrap64 (x.toNat : Int) = (x.toNat : Int) := by have := x.toNat_lt; unfold wrap64; omega
theorem ok32 {n : Nat} (h : n ≤ 400) : n ≤ 4294967296 := by omega
theorem ok6 {r g : Nat} {l : List UInt8} {a b : Nat} {w1 : World} {v : Value} (h : a = b) {w : World} (hc : Calls Tryd.prog 53 #[rdI r] w fun e w' => e = .returned v ∧ w.grownBy w' (some r) ∧ Rd r g l a w') : Calls Tryd.prog 53 #[rdI r] w fun e w' => e = .returned v ∧ w.grownBy w' (some r) ∧ Rd r g l b w' := h ▸ hc
theorem cleanS (K : Int) (b : Int) (P : Prop) [Decidable P] (h : laws_codClean.f (0 + 5) K false 0 0 b ⟨#[]⟩ 0 false false 0 0 = some (decide P)) : spec_CodClean.f (0 + 5) K false 0 0 b ⟨#[]⟩ 0 false false 0 0 = some (decide P) := by
  unfold laws_codClean.f laws_codOf.f laws_codPane.f at h
  simpa using h
theorem some_ex {α : Type} {o : Option α} {x : α} (h : o = some x) : ∃ y, o = some y := ⟨x, h⟩
theorem decode_row (pe pl : Addr) (k : Nat) (hk8 : k < 256) (t : ByteArray) (w : World) (he : Env w.heap.size pe pl w) :
    Calls Tryd.prog 5 #[.int .u8 k, .string t] w fun e w' => e = .returned (.bool true) ∧ Below w.heap.size w w' := by
  by_cases h : 2147483647 < t.size
  · exact decode_big k t w h
  by_cases hk : 12 < k
  · exact decode_kind pe pl k hk8 t w he h hk
  by_cases hl : 400 < t.size
  · exact decode_long pe pl k hk8 t w he h (by omega) hl
  have ht : t.size ≤ 400 := by omega
  have ht32 : t.size ≤ 4294967296 := ok32 ht
  have hlen := len_size t
  match k, hk with
  | 0, _ =>
    cases hL : t.data.toList with
    | nil =>
      rw [hL] at hlen
      exact decode_wrong pe pl 0 (by decide) t ht 0 false 0 0 0 ⟨#[]⟩ 0 false false 0 0 0 w he (fun W => decd_0_short t W (by rw [← hlen]; decide)) (fun W hE hB => (decVal_0_eof w.heap.size pe pl t W ht32 hE hB (by rw [hL]; decide)).mono fun _ _ ⟨i', s, h1, h2, h3, h4⟩ => ⟨i', s, 0, false, 0, 0, 0, ⟨#[]⟩, 0, false, false, 0, 0, h1, h2, h3, h4⟩)
    | cons x r =>
      have h1 : 1 ≤ t.size := by rw [← hlen, hL]; simp
      have hb : Lib.beNat (t.data.toList.take 1) = x.toNat := by rw [hL]; exact be_one x r
      by_cases x0 : x = 0
      · exact decode_ok pe pl 0 (by decide) t ht 0 false 0 0 0 ⟨#[]⟩ 0 false false 0 0 1 w he (fun W => decd_0_f t W h1 (by rw [hb, x0]; rfl)) (fun W hE hB => decVal_0_f w.heap.size pe pl t W ht32 hE hB (by rw [hL, x0]; rfl))
      by_cases x1 : x = 1
      · exact decode_ok pe pl 0 (by decide) t ht 0 true 0 0 0 ⟨#[]⟩ 0 false false 0 0 1 w he (fun W => decd_0_t t W h1 (by rw [hb, x1]; rfl)) (fun W hE hB => decVal_0_t w.heap.size pe pl t W ht32 hE hB (by rw [hL, x1]; rfl))
      · have hgt : 1 < x.toNat := by
          rcases Nat.lt_or_ge 1 x.toNat with h | h
          · exact h
          · exfalso
            rcases (show x.toNat = 0 ∨ x.toNat = 1 by omega) with e | e
            · exact x0 (UInt8.toNat_inj.1 e)
            · exact x1 (UInt8.toNat_inj.1 e)
        exact decode_wrong pe pl 0 (by decide) t ht 0 false 0 0 0 ⟨#[]⟩ 0 false false 0 0 0 w he (fun W => decd_0_b t W h1 (by rw [hb]; exact hgt)) (fun W hE hB => (decVal_0_bad w.heap.size pe pl t W ht32 hE hB x ⟨by rw [hL]; rfl, x0, x1⟩).mono fun _ _ ⟨i', s, h1, h2, h3, h4⟩ => ⟨i', s, 0, false, 0, 0, 0, ⟨#[]⟩, 0, false, false, 0, 0, h1, h2, h3, h4⟩)
  | 1, _ =>
    cases hL : t.data.toList with
    | nil =>
      rw [hL] at hlen
      exact decode_wrong pe pl 1 (by decide) t ht 0 false 0 0 0 ⟨#[]⟩ 0 false false 0 0 0 w he (fun W => decd_1_short t W (by rw [← hlen]; decide)) (fun W hE hB => (decVal_1_bad w.heap.size pe pl t W ht32 hE hB (by rw [hL]; decide)).mono fun _ _ ⟨i', s, h1, h2, h3, h4⟩ => ⟨i', s, 1, false, 0, 0, 0, ⟨#[]⟩, 0, false, false, 0, 0, h1, h2, h3, h4⟩)
    | cons x r =>
      have h1 : 1 ≤ t.size := by rw [← hlen, hL]; simp
      have hb : Lib.beNat (t.data.toList.take 1) = x.toNat := by rw [hL]; exact be_one x r
      exact decode_ok pe pl 1 (by decide) t ht 1 false (x.toNat : Nat) 0 0 ⟨#[]⟩ 0 false false 0 0 1 w he (fun W => by have := decd_1_ok t W h1; rw [hb, u8_wrap] at this; exact this) (fun W hE hB => decVal_1_ok w.heap.size pe pl t W ht32 hE hB x (by rw [hL]; rfl))
  | 4, _ =>
    by_cases hn : 8 ≤ t.size
    · exact decode_ok pe pl 4 (by decide) t ht 4 false (wrap64 (wrap64 (Lib.beNat (t.data.toList.take 8) : Nat) + -9223372036854775808)) 0 0 ⟨#[]⟩ 0 false false 0 0 8 w he (fun W => decd_4_ok t W hn) (fun W hE hB => decVal_4_ok w.heap.size pe pl t W ht32 hE hB (by rw [hlen]; omega))
    · exact decode_wrong pe pl 4 (by decide) t ht 0 false 0 0 0 ⟨#[]⟩ 0 false false 0 0 0 w he (fun W => decd_4_short t W (by omega)) (fun W hE hB => (decVal_4_bad w.heap.size pe pl t W ht32 hE hB (by rw [hlen]; omega)).mono fun _ _ ⟨i', s, h1, h2, h3, h4⟩ => ⟨i', s, 4, false, 0, 0, 0, ⟨#[]⟩, 0, false, false, 0, 0, h1, h2, h3, h4⟩)
  | 5, _ =>
    by_cases hn : 4 ≤ t.size
    · exact decode_ok pe pl 5 (by decide) t ht 5 false (wrap32 (Lib.beNat (t.data.toList.take 4) : Nat)) 0 0 ⟨#[]⟩ 0 false false 0 0 4 w he (fun W => decd_5_ok t W hn) (fun W hE hB => decVal_5_ok w.heap.size pe pl t W ht32 hE hB (by rw [hlen]; omega))
    · exact decode_wrong pe pl 5 (by decide) t ht 0 false 0 0 0 ⟨#[]⟩ 0 false false 0 0 0 w he (fun W => decd_5_short t W (by omega)) (fun W hE hB => (decVal_5_bad w.heap.size pe pl t W ht32 hE hB (by rw [hlen]; omega)).mono fun _ _ ⟨i', s, h1, h2, h3, h4⟩ => ⟨i', s, 5, false, 0, 0, 0, ⟨#[]⟩, 0, false, false, 0, 0, h1, h2, h3, h4⟩)
  | 9, _ =>
    by_cases hn : 4 ≤ t.size
    · exact decode_ok pe pl 9 (by decide) t ht 9 false 0 (Lib.beNat (t.data.toList.take 4) : Nat) 0 ⟨#[]⟩ 0 false false 0 0 4 w he (fun W => decd_9_ok t W hn) (fun W hE hB => decVal_9_ok w.heap.size pe pl t W ht32 hE hB (by rw [hlen]; omega))
    · exact decode_wrong pe pl 9 (by decide) t ht 0 false 0 0 0 ⟨#[]⟩ 0 false false 0 0 0 w he (fun W => decd_9_short t W (by omega)) (fun W hE hB => (decVal_9_bad w.heap.size pe pl t W ht32 hE hB (by rw [hlen]; omega)).mono fun _ _ ⟨i', s, h1, h2, h3, h4⟩ => ⟨i', s, 9, false, 0, 0, 0, ⟨#[]⟩, 0, false, false, 0, 0, h1, h2, h3, h4⟩)
  | 10, _ =>
    by_cases hn : 8 ≤ t.size
    · exact decode_ok pe pl 10 (by decide) t ht 10 false 0 (Lib.beNat (t.data.toList.take 8) : Nat) 0 ⟨#[]⟩ 0 false false 0 0 8 w he (fun W => decd_10_ok t W hn) (fun W hE hB => decVal_10_ok w.heap.size pe pl t W ht32 hE hB (by rw [hlen]; omega))
    · exact decode_wrong pe pl 10 (by decide) t ht 0 false 0 0 0 ⟨#[]⟩ 0 false false 0 0 0 w he (fun W => decd_10_short t W (by omega)) (fun W hE hB => (decVal_10_bad w.heap.size pe pl t W ht32 hE hB (by rw [hlen]; omega)).mono fun _ _ ⟨i', s, h1, h2, h3, h4⟩ => ⟨i', s, 10, false, 0, 0, 0, ⟨#[]⟩, 0, false, false, 0, 0, h1, h2, h3, h4⟩)
  | 3, _ =>
    by_cases hn : 8 ≤ t.size
    · have hc := cleanS 3 (Lib.beNat (t.data.toList.take 8) : Nat) _ (clean_3 0 false 0 0 (Lib.beNat (t.data.toList.take 8) : Nat) ⟨#[]⟩ 0 false false 0 0)
      obtain ⟨d, hc⟩ := some_ex hc
      cases d with
      | true => exact decode_ok pe pl 3 (by decide) t ht 3 false 0 0 (Lib.beNat (t.data.toList.take 8) : Nat) ⟨#[]⟩ 0 false false 0 0 8 w he (fun W => decd_3_ok t W hn 5 hc) (fun W hE hB => decVal_3_ok w.heap.size pe pl t W ht32 hE hB (by rw [hlen]; omega))
      | false => exact decode_un pe pl 3 (by decide) t ht 0 false 0 0 0 ⟨#[]⟩ 0 false false 0 0 0 w he (fun W => decd_3_un t W hn 5 hc)
    · exact decode_wrong pe pl 3 (by decide) t ht 0 false 0 0 0 ⟨#[]⟩ 0 false false 0 0 0 w he (fun W => decd_3_short t W (by omega)) (fun W hE hB => (decVal_3_bad w.heap.size pe pl t W ht32 hE hB (by rw [hlen]; omega)).mono fun _ _ ⟨i', s, h1, h2, h3, h4⟩ => ⟨i', s, 3, false, 0, 0, 0, ⟨#[]⟩, 0, false, false, 0, 0, h1, h2, h3, h4⟩)
  | 7, _ =>
    by_cases hn : 4 ≤ t.size
    · have hc := cleanS 7 (Lib.beNat (t.data.toList.take 4) : Nat) _ (clean_7 0 false 0 0 (Lib.beNat (t.data.toList.take 4) : Nat) ⟨#[]⟩ 0 false false 0 0)
      obtain ⟨d, hc⟩ := some_ex hc
      cases d with
      | true => exact decode_ok pe pl 7 (by decide) t ht 7 false 0 0 (Lib.beNat (t.data.toList.take 4) : Nat) ⟨#[]⟩ 0 false false 0 0 4 w he (fun W => decd_7_ok t W hn 5 hc) (fun W hE hB => decVal_7_ok w.heap.size pe pl t W ht32 hE hB (by rw [hlen]; omega))
      | false => exact decode_un pe pl 7 (by decide) t ht 0 false 0 0 0 ⟨#[]⟩ 0 false false 0 0 0 w he (fun W => decd_7_un t W hn 5 hc)
    · exact decode_wrong pe pl 7 (by decide) t ht 0 false 0 0 0 ⟨#[]⟩ 0 false false 0 0 0 w he (fun W => decd_7_short t W (by omega)) (fun W hE hB => (decVal_7_bad w.heap.size pe pl t W ht32 hE hB (by rw [hlen]; omega)).mono fun _ _ ⟨i', s, h1, h2, h3, h4⟩ => ⟨i', s, 7, false, 0, 0, 0, ⟨#[]⟩, 0, false, false, 0, 0, h1, h2, h3, h4⟩)
  | 2, _ =>
    cases hv : vrd 0 0 t.data.toList with
    | none =>
      exact decode_wrong pe pl 2 (by decide) t ht 0 false 0 0 0 ⟨#[]⟩ 0 false false 0 0 0 w he (fun W => decd_2_wrong t W ht32 hv) (fun W hE hB => (decVal_2_bad w.heap.size pe pl t W ht32 hE hB (.inl hv)).mono fun _ _ ⟨i', s, h1, h2, h3, h4⟩ => ⟨i', s, 2, false, 0, 0, 0, ⟨#[]⟩, 0, false, false, 0, 0, h1, h2, h3, h4⟩)
    | some p =>
      obtain ⟨v, m⟩ := p
      by_cases hb : 1000000 < v
      · exact decode_un pe pl 2 (by decide) t ht 0 false 0 0 0 ⟨#[]⟩ 0 false false 0 0 0 w he (fun W => decd_2_big t W ht32 v m hv hb)
      by_cases hf : t.size < m + v
      · exact decode_wrong pe pl 2 (by decide) t ht 0 false 0 0 0 ⟨#[]⟩ 0 false false 0 0 0 w he (fun W => decd_2_few t W ht32 v m hv (by omega) hf) (fun W hE hB => (decVal_2_bad w.heap.size pe pl t W ht32 hE hB (.inr ⟨v, m, hv, by omega, by rw [hlen]; exact hf⟩)).mono fun _ _ ⟨i', s, h1, h2, h3, h4⟩ => ⟨i', s, 2, false, 0, 0, 0, ⟨#[]⟩, 0, false, false, 0, 0, h1, h2, h3, h4⟩)
      · exact decode_ok pe pl 2 (by decide) t ht 2 false 0 0 0 ⟨((t.data.toList.drop m).take v).toArray⟩ 0 false false 0 0 (m + v) w he (fun W => decd_2_ok t W ht32 v m hv (by omega) (by omega)) (fun W hE hB => decVal_2_ok w.heap.size pe pl t W ht32 hE hB v m (m + v) ⟨hv, by omega, by rw [hlen]; omega, rfl⟩)
  | 8, _ =>
    cases hv : vrd 0 0 t.data.toList with
    | none =>
      exact decode_wrong pe pl 8 (by decide) t ht 0 false 0 0 0 ⟨#[]⟩ 0 false false 0 0 0 w he (fun W => decd_8_wrong t W ht32 hv) (fun W hE hB => (decVal_8_bad w.heap.size pe pl t W ht32 hE hB (.inl hv)).mono fun _ _ ⟨i', s, h1, h2, h3, h4⟩ => ⟨i', s, 8, false, 0, 0, 0, ⟨#[]⟩, 0, false, false, 0, 0, h1, h2, h3, h4⟩)
    | some p =>
      obtain ⟨v, m⟩ := p
      by_cases hb : 1000000 < v
      · exact decode_un pe pl 8 (by decide) t ht 0 false 0 0 0 ⟨#[]⟩ 0 false false 0 0 0 w he (fun W => decd_8_big t W ht32 v m hv hb)
      by_cases hf : t.size < m + v
      · exact decode_wrong pe pl 8 (by decide) t ht 0 false 0 0 0 ⟨#[]⟩ 0 false false 0 0 0 w he (fun W => decd_8_few t W ht32 v m hv (by omega) hf) (fun W hE hB => (decVal_8_bad w.heap.size pe pl t W ht32 hE hB (.inr ⟨v, m, hv, by omega, by rw [hlen]; exact hf⟩)).mono fun _ _ ⟨i', s, h1, h2, h3, h4⟩ => ⟨i', s, 8, false, 0, 0, 0, ⟨#[]⟩, 0, false, false, 0, 0, h1, h2, h3, h4⟩)
      · exact decode_ok pe pl 8 (by decide) t ht 8 false 0 0 0 ⟨((t.data.toList.drop m).take v).toArray⟩ 0 false false 0 0 (m + v) w he (fun W => decd_8_ok t W ht32 v m hv (by omega) (by omega)) (fun W hE hB => decVal_8_ok w.heap.size pe pl t W ht32 hE hB v m (m + v) ⟨hv, by omega, by rw [hlen]; omega, rfl⟩)
  | 11, _ =>
    cases hv : vrd 0 0 t.data.toList with
    | none =>
      exact decode_wrong pe pl 11 (by decide) t ht 0 false 0 0 0 ⟨#[]⟩ 0 false false 0 0 0 w he (fun W => decd_11_wrong t W ht32 hv) (fun W hE hB => (decVal_11_bad w.heap.size pe pl t W ht32 hE hB hv).mono fun _ _ ⟨i', s, h1, h2, h3, h4⟩ => ⟨i', s, 11, false, 0, 0, 0, ⟨#[]⟩, 0, false, false, 0, 0, h1, h2, h3, h4⟩)
    | some p =>
      obtain ⟨v, m⟩ := p
      exact decode_ok pe pl 11 (by decide) t ht 11 false (wrap64 (v : Nat)) 0 0 ⟨#[]⟩ 0 false false 0 0 m w he (fun W => decd_11_ok t W ht32 v m hv) (fun W hE hB => decVal_11_ok w.heap.size pe pl t W ht32 hE hB v m hv)
  | 12, _ =>
    cases hv : vrd 0 0 t.data.toList with
    | none =>
      exact decode_wrong pe pl 12 (by decide) t ht 0 false 0 0 0 ⟨#[]⟩ 0 false false 0 0 0 w he (fun W => decd_12_wrong t W ht32 hv) (fun W hE hB => (decVal_12_bad w.heap.size pe pl t W ht32 hE hB hv).mono fun _ _ ⟨i', s, h1, h2, h3, h4⟩ => ⟨i', s, 12, false, 0, 0, 0, ⟨#[]⟩, 0, false, false, 0, 0, h1, h2, h3, h4⟩)
    | some p =>
      obtain ⟨v, m⟩ := p
      exact decode_ok pe pl 12 (by decide) t ht 12 false 0 (v : Nat) 0 ⟨#[]⟩ 0 false false 0 0 m w he (fun W => decd_12_ok t W ht32 v m hv) (fun W hE hB => decVal_12_ok w.heap.size pe pl t W ht32 hE hB v m hv)
  | 6, _ =>
    cases hL : t.data.toList with
    | nil =>
      exact decode_wrong pe pl 6 (by decide) t ht 0 false 0 0 0 ⟨#[]⟩ 0 false false 0 0 0 w he (fun W => decd_6_wrong t W 0 false false 0 0 0 (fun W => pr_empty t W hL)) (fun W hE hB => (decVal_6_bad w.heap.size pe pl t W ht32 hE hB (fun r g w1 h1 h2 h3 h4 => decPane_eof r g _ 0 w1 h1 (by rw [hL]; decide) w.heap.size pe pl h2 h3 h4)).mono fun _ _ ⟨i', s, h1, h2, h3, h4⟩ => ⟨i', s, 6, false, 0, 0, 0, ⟨#[]⟩, 0, false, false, 0, 0, h1, h2, h3, h4⟩)
    | cons x r =>
      have hx : t.data.toList[0]? = some x := by rw [hL]; rfl
      have hd1 : t.data.toList.drop (0 + 1) = r := by rw [hL]; rfl
      by_cases f2 : 2 < x.toNat / 16
      · exact decode_un pe pl 6 (by decide) t ht 0 false 0 0 0 ⟨#[]⟩ 0 false false 0 0 0 w he (fun W => decd_6_un t W 0 false false 0 0 0 (fun W => pr_un t W x r hL f2))
      by_cases f0 : x.toNat / 16 = 0
      · exact decode_ok pe pl 6 (by decide) t ht 6 false 0 0 0 ⟨#[]⟩ (x.toNat / 4 % 4 : Nat) (decide (x.toNat % 2 = 1)) (decide (x.toNat / 2 % 2 = 1)) 0 0 1 w he (fun W => decd_6_ok t W (x.toNat / 4 % 4 : Nat) (decide (x.toNat % 2 = 1)) (decide (x.toNat / 2 % 2 = 1)) 0 0 (1 : Nat) (fun W => pr_0 t W x r hL f0)) (fun W hE hB => decVal_6_ok w.heap.size pe pl t W ht32 hE hB (x.toNat / 4 % 4) (decide (x.toNat % 2 = 1)) (decide (x.toNat / 2 % 2 = 1)) 0 0 1 ⟨by omega, fun r g w1 h1 h2 h3 h4 => decPane_0 r g _ 0 x w1 h1 hx f0⟩)
      cases hv : vrd 0 0 r with
      | none =>
        rcases (show x.toNat / 16 = 1 ∨ x.toNat / 16 = 2 by omega) with f1 | f1
        · exact decode_wrong pe pl 6 (by decide) t ht 0 false 0 0 0 ⟨#[]⟩ 0 false false 0 0 0 w he (fun W => decd_6_wrong t W 0 false false 0 0 0 (fun W => pr_bad1 t W x _ hL ht32 (.inl f1) hv)) (fun W hE hB => (decVal_6_bad w.heap.size pe pl t W ht32 hE hB (fun r g w1 h1 h2 h3 h4 => decPane_1b r g _ 0 x w1 h1 hx f1 w.heap.size pe pl h2 h3 h4 (by rw [hd1]; exact hv))).mono fun _ _ ⟨i', s, h1, h2, h3, h4⟩ => ⟨i', s, 6, false, 0, 0, 0, ⟨#[]⟩, 0, false, false, 0, 0, h1, h2, h3, h4⟩)
        · exact decode_wrong pe pl 6 (by decide) t ht 0 false 0 0 0 ⟨#[]⟩ 0 false false 0 0 0 w he (fun W => decd_6_wrong t W 0 false false 0 0 0 (fun W => pr_bad1 t W x _ hL ht32 (.inr f1) hv)) (fun W hE hB => (decVal_6_bad w.heap.size pe pl t W ht32 hE hB (fun r g w1 h1 h2 h3 h4 => decPane_2b r g _ 0 x w1 h1 hx f1 w.heap.size pe pl h2 h3 h4 (by rw [hd1]; exact hv))).mono fun _ _ ⟨i', s, h1, h2, h3, h4⟩ => ⟨i', s, 6, false, 0, 0, 0, ⟨#[]⟩, 0, false, false, 0, 0, h1, h2, h3, h4⟩)
      | some p =>
        obtain ⟨v, m⟩ := p
        rcases (show x.toNat / 16 = 1 ∨ x.toNat / 16 = 2 by omega) with f1 | f1
        · by_cases y0 : x.toNat / 4 % 4 = 0
          · exact decode_ok pe pl 6 (by decide) t ht 6 false 0 0 0 ⟨#[]⟩ (x.toNat / 4 % 4 : Nat) (decide (x.toNat % 2 = 1)) (decide (x.toNat / 2 % 2 = 1)) (wrap64 (v : Nat)) (-1) (1 + m) w he (fun W => decd_6_ok t W (x.toNat / 4 % 4 : Nat) (decide (x.toNat % 2 = 1)) (decide (x.toNat / 2 % 2 = 1)) (wrap64 (v : Nat)) (-1) ((1 + m) : Nat) (fun W => pr_1z t W x _ hL ht32 f1 y0 v m hv)) (fun W hE hB => decVal_6_ok w.heap.size pe pl t W ht32 hE hB (x.toNat / 4 % 4) (decide (x.toNat % 2 = 1)) (decide (x.toNat / 2 % 2 = 1)) (wrap64 (v : Nat)) (-1) (1 + m) ⟨by omega, fun r g w1 h1 h2 h3 h4 => ok6 (w1 := w1) (by omega) (decPane_1z r g _ 0 x w1 h1 hx f1 y0 w.heap.size pe pl h2 h3 h4 v m (by rw [hd1]; exact hv))⟩)
          · exact decode_ok pe pl 6 (by decide) t ht 6 false 0 0 0 ⟨#[]⟩ (x.toNat / 4 % 4 : Nat) (decide (x.toNat % 2 = 1)) (decide (x.toNat / 2 % 2 = 1)) (wrap64 (v : Nat)) (wrap64 (v : Nat)) (1 + m) w he (fun W => decd_6_ok t W (x.toNat / 4 % 4 : Nat) (decide (x.toNat % 2 = 1)) (decide (x.toNat / 2 % 2 = 1)) (wrap64 (v : Nat)) (wrap64 (v : Nat)) ((1 + m) : Nat) (fun W => pr_1 t W x _ hL ht32 f1 y0 v m hv)) (fun W hE hB => decVal_6_ok w.heap.size pe pl t W ht32 hE hB (x.toNat / 4 % 4) (decide (x.toNat % 2 = 1)) (decide (x.toNat / 2 % 2 = 1)) (wrap64 (v : Nat)) (wrap64 (v : Nat)) (1 + m) ⟨by omega, fun r g w1 h1 h2 h3 h4 => ok6 (w1 := w1) (by omega) (decPane_1 r g _ 0 x w1 h1 hx f1 y0 w.heap.size pe pl h2 h3 h4 v m (by rw [hd1]; exact hv))⟩)
        · have hd2 : t.data.toList.drop (0 + 1 + m) = r.drop m := by rw [← List.drop_drop, hd1]
          cases hv2 : vrd 0 0 (r.drop m) with
          | none =>
            exact decode_wrong pe pl 6 (by decide) t ht 0 false 0 0 0 ⟨#[]⟩ 0 false false 0 0 0 w he (fun W => decd_6_wrong t W 0 false false 0 0 0 (fun W => pr_bad2 t W x _ hL ht32 f1 v m hv hv2)) (fun W hE hB => (decVal_6_bad w.heap.size pe pl t W ht32 hE hB (fun r g w1 h1 h2 h3 h4 => decPane_2c r g _ 0 x w1 h1 hx f1 w.heap.size pe pl h2 h3 h4 v m (by rw [hd1]; exact hv) (by rw [hd2]; exact hv2))).mono fun _ _ ⟨i', s, h1, h2, h3, h4⟩ => ⟨i', s, 6, false, 0, 0, 0, ⟨#[]⟩, 0, false, false, 0, 0, h1, h2, h3, h4⟩)
          | some p2 =>
            obtain ⟨v2, m2⟩ := p2
            exact decode_ok pe pl 6 (by decide) t ht 6 false 0 0 0 ⟨#[]⟩ (x.toNat / 4 % 4 : Nat) (decide (x.toNat % 2 = 1)) (decide (x.toNat / 2 % 2 = 1)) (wrap64 (v : Nat)) (wrap64 (v2 : Nat)) (1 + m + m2) w he (fun W => decd_6_ok t W (x.toNat / 4 % 4 : Nat) (decide (x.toNat % 2 = 1)) (decide (x.toNat / 2 % 2 = 1)) (wrap64 (v : Nat)) (wrap64 (v2 : Nat)) ((1 + m + m2) : Nat) (fun W => pr_2 t W x _ hL ht32 f1 v m v2 m2 hv hv2)) (fun W hE hB => decVal_6_ok w.heap.size pe pl t W ht32 hE hB (x.toNat / 4 % 4) (decide (x.toNat % 2 = 1)) (decide (x.toNat / 2 % 2 = 1)) (wrap64 (v : Nat)) (wrap64 (v2 : Nat)) (1 + m + m2) ⟨by omega, fun r g w1 h1 h2 h3 h4 => ok6 (w1 := w1) (by omega) (decPane_2 r g _ 0 x w1 h1 hx f1 w.heap.size pe pl h2 h3 h4 v m v2 m2 (by rw [hd1]; exact hv) (by rw [hd2]; exact hv2))⟩)
  | k + 13, hk => exact absurd (by omega) hk
theorem decode_rowZ (pe pl : Addr) (k : Int) (hc0 : (Lit.int .u8 k).wf = true) (t : ByteArray) (w : World) (he : Env w.heap.size pe pl w) :
    Calls Tryd.prog 5 #[.int .u8 k, .string t] w fun e w' => e = .returned (.bool true) ∧ Below w.heap.size w w' := by
  have hc : 0 ≤ k ∧ k ≤ 255 := by
    have hmin : IntKind.u8.min = 0 := rfl
    have hmax : IntKind.u8.max = 255 := rfl
    simp only [Lit.wf, Bool.and_eq_true, decide_eq_true_eq] at hc0
    omega
  obtain ⟨q, rfl⟩ := Int.eq_ofNat_of_zero_le hc.1
  exact decode_row pe pl q (by omega) t w he
end Go.Proofs.YtgdbeiadlgkedaaDoor
