/- Contracts and plain laws, several texts in one. -/
import Derived.Test.YtgdbeiadlgkedaaDoorMRowBack8
import Derived.WalkSmall
/- Contracts: the reference reads a number by sevens of bits. -/
namespace Go.Proofs.YtgdbeiadlgkedaaDoor
open Go.RowKit
set_option linter.unusedVariables false
set_option linter.unusedSimpArgs false

def cvr (R : Option (Nat × Nat)) : Value := match R with
  | some (v, k) => .tuple #[.int .u64 (v : Nat), .int .i64 (k : Nat), .int .i64 0]
  | none => .tuple #[.int .u64 0, .int .i64 0, .int .i64 1]
theorem get_at (s : ByteArray) (i : Nat) (c : UInt8) (r : List UInt8) (h : s.data.toList.drop i = c :: r) : ∀ hm : i < s.size, s[i]'hm = c := by
  intro hm
  have h1 : s.data.toList[i]? = some c := by
    have := congrArg (fun l => l[0]?) h
    simpa [List.getElem?_drop] using this
  obtain ⟨h3, h4⟩ := List.getElem?_eq_some_iff.1 h1
  rw [← h4]; rfl
set_option maxHeartbeats 8000000 in
set_option maxRecDepth 100000 in
theorem codVarRead_any (s : ByteArray) (w : World) (hs : s.size ≤ 4294967296) (R : Option (Nat × Nat)) (hR : vrd 0 0 s.data.toList = R) :
    Calls Tryd.prog 37 #[.string s] w fun e w' => e = .returned (cvr R) ∧ w = w' := by
  obtain ⟨N, hN⟩ : ∃ N, N = s.size := ⟨_, rfl⟩
  have hN2 := hN.symm
  have HL := Lib.hid (show s.data.toList.length = N by rw [Array.length_toList]; exact hN.symm)
  have HS := Lib.hid hs
  have HR := Lib.hid hR
  clear hs hR hN
  go_enter Tryd.func37, Tryd.ntmps37
  go_wp2
  go_loopg [5, 9] N (fun kq v5 v9 wr => ∃ (i z : Nat), v5 = .int .u64 z ∧ v9 = .int .i64 i ∧ Hid (kq + i = N) ∧ Hid (vrd i z (s.data.toList.drop i) = R ∧ i ≤ 9 ∧ z < 2 ^ (7 * i)) ∧ w = wr)
  case atStart => exact ⟨0, 0, rfl, rfl, Lib.hid rfl, Lib.hid ⟨by rw [List.drop_zero]; exact HR.out, by omega, by decide⟩, rfl⟩
  case round =>
    clear HR
    obtain ⟨i, z, rfl, rfl, HI, HV, hw⟩ := hrel
    subst hw
    have hw1 : wrap64 ((i : Int) + 1) = (i : Int) + 1 := IntWalk.wrap64_in _ (by have := HV.out; omega)
    have hw2 : IntKind.i64.wrap ((i : Int) + 1) = (i : Int) + 1 := IntWalk.i64_in _ (by have := HV.out; omega)
    cases gk with
    | zero =>
      obtain rfl : i = N := by have := HI.out; omega
      have hR : R = none := by rw [← HV.out.1, List.drop_eq_nil_of_le (by rw [HL.out]; omega)]; rfl
      have HR := Lib.hid hR
      clear hR hw1 hw2
      go_wp2
      go_ret3
      exact ⟨by rw [HR.out]; rfl, rfl⟩
    | succ d =>
      have hlt : (i : Int) < (N : Int) := by have := HI.out; omega
      have hlt2 : i < N := by omega
      obtain ⟨c, rest, hcr⟩ : ∃ c rest, s.data.toList.drop i = c :: rest := ⟨_, _, List.drop_eq_getElem_cons (by rw [HL.out]; omega)⟩
      have hg := get_at s i c rest hcr
      have hc256 := c.toNat_lt
      have HCR := Lib.hid hcr
      obtain ⟨n, hn⟩ : ∃ n, Hid (c.toNat = n) := ⟨_, Lib.hid rfl⟩
      obtain ⟨b, hb⟩ : ∃ b, Hid (n % 128 = b) := ⟨_, Lib.hid rfl⟩
      obtain ⟨sh, hsh⟩ : ∃ sh, Hid (7 * i = sh) := ⟨_, Lib.hid rfl⟩
      have hlt3 : i < s.size := by omega
      have qa : bits .and .u8 (n : Int) 127 = (b : Int) := by rw [← hn.out, u8_and127 c.toNat hc256, hn.out, hb.out]
      have qb : IntKind.u64.wrap (b : Int) = (b : Int) := by rw [IntKind.wrap_u64]; have := hb.out; omega
      have qs : wrap64 (7 * (i : Int)) = (sh : Int) := by rw [IntWalk.wrap64_in _ (by have := HV.out; omega)]; have := hsh.out; omega
      have qs2 : IntKind.i64.wrap (7 * (i : Int)) = (sh : Int) := by rw [IntWalk.i64_in _ (by have := HV.out; omega)]; have := hsh.out; omega
      have hsh63 : (sh : Int) < 64 := by have := hsh.out; have := HV.out; omega
      have hsh64 : sh < 64 := by omega
      have hcn : c.toNat = n := hn.out
      by_cases h9 : i = 9
      · have hi9 : ((i : Int) == 9) = true := by rw [beq_iff_eq]; omega
        by_cases h1 : 1 < n
        · have h1' : 1 < (n : Int) := by omega
          have HR := Lib.hid (show R = none by rw [← HV.out.1, HCR.out]; exact vrd_bad (.inr ⟨h9, by omega⟩))
          clear h9 h1 hcr hc256 qa qb qs qs2 hsh63 hsh64 hw1 hw2
          go_wp2
          go_ret3
          exact ⟨by rw [HR.out]; rfl, rfl⟩
        · have h1' : ¬ 1 < (n : Int) := by omega
          have h2' : (n : Int) < 128 := by omega
          have hi10 : ¬ 9 < (i : Int) := by omega
          obtain ⟨V, hV⟩ : ∃ V, Hid (z + b * 2 ^ sh = V) := ⟨_, Lib.hid rfl⟩
          have hbn : b = n := by have := hb.out; omega
          have hsh9 : sh = 63 := by have := hsh.out; omega
          have qv : bits .or .u64 (z : Int) (IntKind.u64.wrap ((b : Int) * 2 ^ sh)) = (V : Int) := by
            rw [orv z b sh (by rw [← hsh.out]; exact HV.out.2.2) (by omega) (by
              rw [hsh9]
              have e : (2 : Nat) ^ 63 = 9223372036854775808 := by decide
              have : b * 2 ^ 63 ≤ 1 * 2 ^ 63 := Nat.mul_le_mul_right _ (by omega)
              omega), hV.out]
          have HR := Lib.hid (show R = some (V, i + 1) by
            rw [← HV.out.1, HCR.out, vrd_end (by omega) (by omega), ← hV.out, hsh.out, hbn, hcn])
          clear h9 h1 hcr hc256 hbn hsh9
          go_wp2
          go_ret3
          exact ⟨by rw [HR.out]; rfl, rfl⟩
      · have hi9 : ((i : Int) == 9) = false := by rw [beq_eq_false_iff_ne]; omega
        have hi10 : ¬ 9 < (i : Int) := by have := HV.out; omega
        obtain ⟨V, hV⟩ : ∃ V, Hid (z + b * 2 ^ sh = V) := ⟨_, Lib.hid rfl⟩
        have hb1 : b < 128 := by have := hb.out; omega
        have qv : bits .or .u64 (z : Int) (IntKind.u64.wrap ((b : Int) * 2 ^ sh)) = (V : Int) := by
          rw [orv z b sh (by rw [← hsh.out]; exact HV.out.2.2) (by have := hsh.out; have := HV.out; omega) (by rw [← hsh.out]; exact mul_pow_lt b i hb1 (by have := HV.out; omega)), hV.out]
        by_cases h128 : n < 128
        · have h2' : (n : Int) < 128 := by omega
          have hbn : b = n := by have := hb.out; omega
          have HR := Lib.hid (show R = some (V, i + 1) by
            rw [← HV.out.1, HCR.out, vrd_end (by have := HV.out; omega) (by omega), ← hV.out, hsh.out, hbn, hcn])
          clear h9 h128 hcr hc256 hbn hb1
          go_wp2
          go_ret3
          exact ⟨by rw [HR.out]; rfl, rfl⟩
        · have h2' : ¬ (n : Int) < 128 := by omega
          have HNX := Lib.hid (show vrd (i + 1) V rest = R ∧ i + 1 ≤ 9 ∧ V < 2 ^ (7 * (i + 1)) by
            refine ⟨?_, by have := HV.out; omega, ?_⟩
            · rw [← HV.out.1, HCR.out, vrd_on (by have := HV.out; omega) (by omega), ← hV.out, hsh.out, hcn, hb.out]
            · rw [← hV.out, ← hsh.out, pow7]
              have := HV.out.2.2
              have : b * 2 ^ (7 * i) ≤ 127 * 2 ^ (7 * i) := Nat.mul_le_mul_right _ (by omega)
              omega)
          have HDR := Lib.hid (show s.data.toList.drop (i + 1) = rest by rw [← List.drop_drop, HCR.out]; rfl)
          clear h9 h128 hcr hc256 hb1
          go_wp2
          go_roundg d
          case measure => exact Nat.lt_succ_self d
          case rel => exact ⟨i + 1, V, rfl, by go_num, Lib.hid (by have := HI.out; omega), Lib.hid (by rw [HDR.out]; exact HNX.out), rfl⟩
end Go.Proofs.YtgdbeiadlgkedaaDoor

/- The walk of the statement on the reading of a simple header. -/
namespace Go.Proofs.YtgdbeiadlgkedaaDoor
open Go.RowKit
set_option linter.unusedVariables false
set_option linter.unusedSimpArgs false

theorem rsh_none1 {n : Int} {l : List UInt8} {v k : Nat} (h : vrd 0 0 l = some (v, k)) (hn : wrap64 (v : Int) ≠ n) : rsh n l = none := by
  unfold rsh; simp only [h]; rw [if_neg hn]
theorem rsh_none2 {n : Int} {l : List UInt8} {v k : Nat} (h : vrd 0 0 l = some (v, k)) (h2 : vrd 0 0 (l.drop k) = none) : rsh n l = none := by
  unfold rsh; simp only [h, h2]; split <;> rfl
theorem rsh_none3 {n : Int} {l : List UInt8} {v k v2 k2 : Nat} (h : vrd 0 0 l = some (v, k)) (h2 : vrd 0 0 (l.drop k) = some (v2, k2)) (h0 : wrap64 (v2 : Int) ≠ 0) : rsh n l = none := by
  unfold rsh; simp only [h, h2, if_neg h0]; split <;> rfl
theorem rsh_some {n : Int} {l : List UInt8} {v k v2 k2 : Nat} (h : vrd 0 0 l = some (v, k)) (h2 : vrd 0 0 (l.drop k) = some (v2, k2)) (hn : wrap64 (v : Int) = n) (h0 : wrap64 (v2 : Int) = 0) : rsh n l = some (k + k2) := by
  unfold rsh; simp only [h, h2, if_pos hn, if_pos h0]
theorem kk_fact {k k2 z : Nat} (h1 : k ≤ 10) (h2 : k2 ≤ 10) (hz : k + k2 = z) : wrap64 ((k : Int) + (k2 : Int)) = (z : Int) ∧ IntKind.i64.wrap ((k : Int) + (k2 : Int)) = (z : Int) := by
  have h : wrap64 ((k : Int) + (k2 : Int)) = (z : Int) := by unfold wrap64; omega
  exact ⟨h, by rw [IntWalk.i64_in _ (by omega)]; omega⟩
set_option maxHeartbeats 8000000 in
set_option maxRecDepth 100000 in
theorem rowSimpleRead_row (pe pl : Addr) (n : Int) (s : ByteArray) (w : World) (hn : (Lit.int .i64 n).wf = true) (he : Env w.heap.size pe pl w) :
    Calls Tryd.prog 15 #[.int .i64 n, .string s] w fun e w' => e = .returned (.bool true) ∧ Below w.heap.size w w' := by
  have HE := Lib.hid he
  by_cases h1 : 2147483647 < s.size
  · have hc : 2147483647 < (s.size : Int) := by omega
    clear he hn h1
    go_enter Tryd.func15, Tryd.ntmps15
    go_wp2
    go_ret
    exact ⟨rfl, Below.refl _ w⟩
  · have hc : ¬ 2147483647 < (s.size : Int) := by omega
    have HA := Lib.hid (awake_any w.heap.size pe pl w he (Nat.le_refl _))
    by_cases c1 : n < 0
    · clear he hn h1
      go_enter Tryd.func15, Tryd.ntmps15
      go_wp2_with (go_at_call 21; go_loud (refine HA.out.mono ?_; rintro e_ w1 ⟨rfl, hb1⟩; have HB1 := Lib.hid hb1; clear hb1))
      go_ret
      exact ⟨rfl, HB1.out⟩
    · by_cases c2 : 1000000 < n
      · clear he hn h1
        go_enter Tryd.func15, Tryd.ntmps15
        go_wp2_with (go_at_call 21; go_loud (refine HA.out.mono ?_; rintro e_ w1 ⟨rfl, hb1⟩; have HB1 := Lib.hid hb1; clear hb1))
        go_ret
        exact ⟨rfl, HB1.out⟩
      · by_cases c5 : 100 < (s.size : Int)
        · clear he hn h1
          go_enter Tryd.func15, Tryd.ntmps15
          go_wp2_with (go_at_call 21; go_loud (refine HA.out.mono ?_; rintro e_ w1 ⟨rfl, hb1⟩; have HB1 := Lib.hid hb1; clear hb1))
          go_ret
          exact ⟨rfl, HB1.out⟩
        · obtain ⟨m, rfl⟩ := Int.eq_ofNat_of_zero_le (show 0 ≤ n by omega)
          have HK := Lib.hid (show m ≤ 1000000 ∧ s.size ≤ 100 ∧ s.size ≤ 4294967296 by omega)
          have c2' : ¬ 1000000 < (m : Int) := c2
          have hcv : IntKind.u64.wrap (m : Int) = (m : Int) := by rw [IntKind.wrap_u64]; have := HK.out; omega
          have HSZ := Lib.hid (show s.data.toList.length = s.size by rw [Array.length_toList]; rfl)
          cases hv : vrd 0 0 s.data.toList with
          | none =>
            have HC1 := Lib.hid (fun W => codVarRead_any s W HK.out.2.2 none hv)
            simp only [cvr] at HC1
            clear he hn h1 c1 c2 hv
            go_enter Tryd.func15, Tryd.ntmps15
            go_wp2_with (first
              | (go_at_call 37; go_loud (refine (HC1.out _).mono ?_; rintro e_ w0 ⟨rfl, rfl⟩))
              | (go_at_call 21; go_loud (refine HA.out.mono ?_; rintro e_ w1 ⟨rfl, hb1⟩; have HB1 := Lib.hid hb1; clear hb1)))
            go_ret
            exact ⟨rfl, HB1.out⟩
          | some p =>
            obtain ⟨v, k⟩ := p
            obtain ⟨f1, f2, f3, f4⟩ := vrd_facts _ 0 0 v k (by decide) hv
            have HC1 := Lib.hid (fun W => codVarRead_any s W HK.out.2.2 (some (v, k)) hv)
            simp only [cvr] at HC1
            by_cases c6 : 1000000 < v
            · have c6' : 1000000 < (v : Int) := by omega
              clear he hn h1 c1 c2 hv f1 f2 f3 f4 c6
              go_enter Tryd.func15, Tryd.ntmps15
              go_wp2_with (first
                | (go_at_call 37; go_loud (refine (HC1.out _).mono ?_; rintro e_ w0 ⟨rfl, rfl⟩))
                | (go_at_call 21; go_loud (refine HA.out.mono ?_; rintro e_ w1 ⟨rfl, hb1⟩; have HB1 := Lib.hid hb1; clear hb1)))
              go_ret
              exact ⟨rfl, HB1.out⟩
            · have c6' : ¬ 1000000 < (v : Int) := by omega
              have hk1 : (k : Int) ≤ (s.size : Int) := by have := HSZ.out; omega
              have hk2 : k ≤ s.size := by omega
              obtain ⟨t2, ht2⟩ : ∃ t2, s.extract k s.size = t2 := ⟨_, rfl⟩
              have HT2 := Lib.hid (show t2.data.toList = s.data.toList.drop k by rw [← ht2, Lib.extract_data, List.take_of_length_le (by rw [List.length_drop, HSZ.out]; omega)])
              have HTS := Lib.hid (show t2.size ≤ 4294967296 by
                have e : t2.data.toList.length = t2.size := by rw [Array.length_toList]; rfl
                rw [← e, HT2.out, List.length_drop, HSZ.out]; omega)
              have hvw : wrap64 (v : Int) = (v : Int) := by unfold wrap64; omega
              cases hv2 : vrd 0 0 (s.data.toList.drop k) with
              | none =>
                have HC2 := Lib.hid (fun W => codVarRead_any t2 W HTS.out none (by rw [HT2.out]; exact hv2))
                simp only [cvr] at HC2
                have HD := Lib.hid (sho_bad w.heap.size pe pl m s w HK.out.2.2 he (Nat.le_refl _) (rsh_none2 hv hv2))
                clear he hn h1 c1 c2 hv hv2 f1 f2 f3 f4 c6
                go_enter Tryd.func15, Tryd.ntmps15
                go_wp2_with (first
                  | (go_at_call 37; (first | ((with_reducible refine (HC1.out _).mono ?_); rintro e_ w0 ⟨rfl, rfl⟩) | ((with_reducible refine (HC2.out _).mono ?_); rintro e_ w0 ⟨rfl, rfl⟩)))
                  | (go_at_call 38; go_loud (refine (HD.out).mono ?_; rintro e_ w1 ⟨i1, s1, rfl, hs1, hb1⟩; have hne1 := ne_empty hs1; have HB1 := Lib.hid hb1; clear hb1 hs1))
                  | (go_at_call 21; go_loud (refine (awake_any w.heap.size pe pl _ (HE.out.below HB1.out) HB1.out.size).mono ?_; rintro e_ w2 ⟨rfl, hb2⟩; have HB2 := Lib.hid (HB1.out.trans (hb2.mono HB1.out.size)); clear hb2)))
                go_ret
                exact ⟨rfl, HB2.out⟩
              | some p =>
                obtain ⟨v2, k2⟩ := p
                obtain ⟨g1, g2, g3, g4⟩ := vrd_facts _ 0 0 v2 k2 (by decide) hv2
                have HC2 := Lib.hid (fun W => codVarRead_any t2 W HTS.out (some (v2, k2)) (by rw [HT2.out]; exact hv2))
                simp only [cvr] at HC2
                by_cases c7 : 1000000 < v2
                · have c7' : 1000000 < (v2 : Int) := by omega
                  clear he hn h1 c1 c2 hv hv2 f1 f2 f3 f4 c6 c7 g1 g2 g3 g4
                  go_enter Tryd.func15, Tryd.ntmps15
                  go_wp2_with (first
                    | (go_at_call 37; (first | ((with_reducible refine (HC1.out _).mono ?_); rintro e_ w0 ⟨rfl, rfl⟩) | ((with_reducible refine (HC2.out _).mono ?_); rintro e_ w0 ⟨rfl, rfl⟩)))
                    | (go_at_call 21; go_loud (refine HA.out.mono ?_; rintro e_ w1 ⟨rfl, hb1⟩; have HB1 := Lib.hid hb1; clear hb1)))
                  go_ret
                  exact ⟨rfl, HB1.out⟩
                · have c7' : ¬ 1000000 < (v2 : Int) := by omega
                  have hvw2 : wrap64 (v2 : Int) = (v2 : Int) := by unfold wrap64; omega
                  by_cases c8 : v = m
                  · have e8 : (v : Int) = (m : Int) := by rw [c8]
                    by_cases c9 : v2 = 0
                    · have e9 : (v2 : Int) = 0 := by rw [c9]; rfl
                      obtain ⟨z, hz⟩ : ∃ z, k + k2 = z := ⟨_, rfl⟩
                      obtain ⟨hkk, hkk2⟩ := kk_fact f4 g4 hz
                      have HD := Lib.hid (sho_ok w.heap.size pe pl m s z w HK.out.2.2 he (Nat.le_refl _) (hz ▸ rsh_some hv hv2 (by rw [hvw]; exact e8) (by rw [hvw2]; exact e9)))
                      clear hz
                      have d8 : ((v : Int) != (m : Int)) = false := bne_eq_false_iff_eq.2 e8
                      have d9 : ((v2 : Int) != 0) = false := bne_eq_false_iff_eq.2 e9
                      clear e8 e9
                      clear he hn h1 c1 c2 hv hv2 f1 f2 f3 f4 c6 c7 g1 g2 g3 g4 c8 c9
                      go_enter Tryd.func15, Tryd.ntmps15
                      go_wp2_with (first
                        | (go_at_call 37; (first | ((with_reducible refine (HC1.out _).mono ?_); rintro e_ w0 ⟨rfl, rfl⟩) | ((with_reducible refine (HC2.out _).mono ?_); rintro e_ w0 ⟨rfl, rfl⟩)))
                        | (go_at_call 38; go_loud (refine (HD.out).mono ?_; rintro e_ w1 ⟨rfl, hb1⟩; have HB1 := Lib.hid hb1; clear hb1))
                        | (go_at_call 21; go_loud (refine (awake_any w.heap.size pe pl _ (HE.out.below HB1.out) HB1.out.size).mono ?_; rintro e_ w2 ⟨rfl, hb2⟩; have HB2 := Lib.hid (HB1.out.trans (hb2.mono HB1.out.size)); clear hb2)))
                      go_ret
                      exact ⟨rfl, HB2.out⟩
                    · have e9 : (v2 : Int) ≠ 0 := fun e => c9 (Int.natCast_eq_zero.1 e)
                      have HD := Lib.hid (sho_bad w.heap.size pe pl m s w HK.out.2.2 he (Nat.le_refl _) (rsh_none3 hv hv2 (by rw [hvw2]; exact e9)))
                      have d8 : ((v : Int) != (m : Int)) = false := bne_eq_false_iff_eq.2 e8
                      have d9 : ((v2 : Int) != 0) = true := bne_iff_ne.2 e9
                      clear e8 e9
                      clear he hn h1 c1 c2 hv hv2 f1 f2 f3 f4 c6 c7 g1 g2 g3 g4 c8 c9
                      go_enter Tryd.func15, Tryd.ntmps15
                      go_wp2_with (first
                        | (go_at_call 37; (first | ((with_reducible refine (HC1.out _).mono ?_); rintro e_ w0 ⟨rfl, rfl⟩) | ((with_reducible refine (HC2.out _).mono ?_); rintro e_ w0 ⟨rfl, rfl⟩)))
                        | (go_at_call 38; go_loud (refine (HD.out).mono ?_; rintro e_ w1 ⟨i1, s1, rfl, hs1, hb1⟩; have hne1 := ne_empty hs1; have HB1 := Lib.hid hb1; clear hb1 hs1))
                        | (go_at_call 21; go_loud (refine (awake_any w.heap.size pe pl _ (HE.out.below HB1.out) HB1.out.size).mono ?_; rintro e_ w2 ⟨rfl, hb2⟩; have HB2 := Lib.hid (HB1.out.trans (hb2.mono HB1.out.size)); clear hb2)))
                      go_ret
                      exact ⟨rfl, HB2.out⟩
                  · have e8 : (v : Int) ≠ (m : Int) := fun e => c8 (Int.ofNat.inj e)
                    have HD := Lib.hid (sho_bad w.heap.size pe pl m s w HK.out.2.2 he (Nat.le_refl _) (rsh_none1 hv (by rw [hvw]; exact e8)))
                    have d8 : ((v : Int) != (m : Int)) = true := bne_iff_ne.2 e8
                    clear e8
                    clear he hn h1 c1 c2 hv hv2 f1 f2 f3 f4 c6 c7 g1 g2 g3 g4 c8
                    go_enter Tryd.func15, Tryd.ntmps15
                    go_wp2_with (first
                      | (go_at_call 37; (first | ((with_reducible refine (HC1.out _).mono ?_); rintro e_ w0 ⟨rfl, rfl⟩) | ((with_reducible refine (HC2.out _).mono ?_); rintro e_ w0 ⟨rfl, rfl⟩)))
                      | (go_at_call 38; go_loud (refine (HD.out).mono ?_; rintro e_ w1 ⟨i1, s1, rfl, hs1, hb1⟩; have hne1 := ne_empty hs1; have HB1 := Lib.hid hb1; clear hb1 hs1))
                      | (go_at_call 21; go_loud (refine (awake_any w.heap.size pe pl _ (HE.out.below HB1.out) HB1.out.size).mono ?_; rintro e_ w2 ⟨rfl, hb2⟩; have HB2 := Lib.hid (HB1.out.trans (hb2.mono HB1.out.size)); clear hb2)))
                    go_ret
                    exact ⟨rfl, HB2.out⟩
end Go.Proofs.YtgdbeiadlgkedaaDoor

/- Contracts: the reference reads a row's header. -/
namespace Go.Proofs.YtgdbeiadlgkedaaDoor
open Go.RowKit
set_option linter.unusedVariables false
set_option linter.unusedSimpArgs false

theorem laid4 {X : World} {b : Nat} {v0 v1 v2 v3 : Value} {T : TypeId} (h : X.heap[b]? = some (.cells #[v0, v1, v2, v3] T (0, 0))) :
    X.cell? ⟨b, 0, none⟩ = some v0 ∧ X.cell? ⟨b, 1, none⟩ = some v1 ∧ X.cell? ⟨b, 2, none⟩ = some v2 ∧ X.cell? ⟨b, 3, none⟩ = some v3 :=
  ⟨(blk_cell h 0).trans rfl, (blk_cell h 1).trans rfl, (blk_cell h 2).trans rfl, (blk_cell h 3).trans rfl⟩
theorem wsub {a b : Nat} (h : b ≤ a) (ha : a ≤ 2000000) : wrap64 ((a : Int) - (b : Int)) = ((a - b : Nat) : Int) ∧ IntKind.i64.wrap ((a : Int) - (b : Int)) = ((a - b : Nat) : Int) := by
  have e : wrap64 ((a : Int) - (b : Int)) = ((a - b : Nat) : Int) := by unfold wrap64; omega
  exact ⟨e, by rw [IntWalk.i64_in _ (by omega)]; omega⟩
theorem wadd {a b : Nat} (ha : a ≤ 2000000) (hb : b ≤ 2000000) : wrap64 ((a : Int) + (b : Int)) = ((a + b : Nat) : Int) ∧ IntKind.i64.wrap ((a : Int) + (b : Int)) = ((a + b : Nat) : Int) := by
  have e : wrap64 ((a : Int) + (b : Int)) = ((a + b : Nat) : Int) := by unfold wrap64; omega
  exact ⟨e, by rw [IntWalk.i64_in _ (by omega)]; omega⟩
theorem wid {a : Nat} (ha : a ≤ 2000000) : wrap64 (a : Int) = (a : Int) := by unfold wrap64; omega
theorem zlt {S k k2 v2 z : Nat} (hz : S - k - k2 = z) (he : S < k + k2 + v2) (hk2 : k2 ≤ S - k) (h : k ≤ S) : (z : Int) < (v2 : Int) := by omega
theorem znlt {S k k2 v2 z : Nat} (hz : S - k - k2 = z) (he : ¬ S < k + k2 + v2) : ¬ (z : Int) < (v2 : Int) := by omega
theorem elim_le {a b : Nat} (h : ¬ b < a) : a ≤ b := Nat.le_of_not_lt h
theorem bab {a b c : Nat} (h : a + b = c) : (a : Int) ≤ (c : Int) ∧ a ≤ c := by omega
theorem bsz {k k2 v2 a b S : Nat} (ha : k + k2 = a) (hb : a + v2 = b) (he : ¬ S < k + k2 + v2) : (b : Int) ≤ (S : Int) ∧ b ≤ S := by omega
theorem drop_str (s : ByteArray) (k : Nat) : (s.extract k s.size).data.toList = s.data.toList.drop k := by
  rw [Lib.extract_data, List.take_of_length_le (by rw [List.length_drop, Array.length_toList]; exact Nat.le_refl _)]
theorem drop_size (s : ByteArray) (k : Nat) (h : s.size ≤ 400) : (s.extract k s.size).size ≤ 4294967296 := by
  rw [ByteArray.size_extract]; omega
set_option maxHeartbeats 4000000 in
set_option maxRecDepth 100000 in
theorem rho_A (s : ByteArray) (w : World) (hs : s.size ≤ 400) (h1 : vrd 0 0 s.data.toList = none) :
    Calls Tryd.prog 39 #[.string s] w fun e w' => e = .returned (.agg #[.int .i64 0, .string ⟨#[]⟩, .int .i64 0, .int .i64 1]) ∧ Below w.heap.size w w' := by
  have HC1 := Lib.hid (fun W => codVarRead_any s W (by omega) none h1)
  simp only [cvr] at HC1
  clear hs h1
  go_enter Tryd.func39, Tryd.ntmps39
  go_wp2_with (go_at_call 37; go_loud (refine (HC1.out _).mono ?_; rintro e_ w0 ⟨rfl, rfl⟩))
  obtain ⟨X, hX⟩ : ∃ X, X = w.alloc (.cells #[.int .i64 0, .string ⟨#[]⟩, .int .i64 0, .int .i64 1] 67) := ⟨_, rfl⟩
  have hb : X.heap[w.heap.size]? = some (.cells #[.int .i64 0, .string ⟨#[]⟩, .int .i64 0, .int .i64 1] 67 (0, 0)) := by rw [hX]; exact heap_alloc_new w _
  have HX := Lib.hid (show Below w.heap.size w X by rw [hX]; exact (Below.refl _ w).alloc (Nat.le_refl _) _)
  rw [← hX]
  clear hX
  obtain ⟨c0, c1, c2, c3⟩ := laid4 hb
  clear hb
  exact bodyPost_ret (v := .agg #[.int .i64 0, .string ⟨#[]⟩, .int .i64 0, .int .i64 1]) (by simp [results, Tryd.results39, go_sem, c0, c1, c2, c3]; try rfl) rfl ⟨rfl, HX.out⟩
set_option maxHeartbeats 4000000 in
set_option maxRecDepth 100000 in
theorem rho_B (s : ByteArray) (w : World) (hs : s.size ≤ 400) (v k : Nat) (h1 : vrd 0 0 s.data.toList = some (v, k)) (h2 : vrd 0 0 (s.data.toList.drop k) = none) :
    Calls Tryd.prog 39 #[.string s] w fun e w' => e = .returned (.agg #[.int .i64 0, .string ⟨#[]⟩, .int .i64 0, .int .i64 1]) ∧ Below w.heap.size w w' := by
  have HC1 := Lib.hid (fun W => codVarRead_any s W (by omega) (some (v, k)) h1)
  simp only [cvr] at HC1
  have HSZ := Lib.hid (show s.data.toList.length = s.size by rw [Array.length_toList]; rfl)
  obtain ⟨f1, f2, f3, f4⟩ := vrd_facts _ 0 0 v k (by decide) h1
  have hk1 : (k : Int) ≤ (s.size : Int) := by have := HSZ.out; omega
  have hk2 : k ≤ s.size := by omega
  have hdl := drop_str s k
  have hds := drop_size s k hs
  obtain ⟨t2, ht2⟩ : ∃ t2, s.extract k s.size = t2 := ⟨_, rfl⟩
  rw [ht2] at hdl hds
  have HC2 := Lib.hid (fun W => codVarRead_any t2 W hds none (by rw [hdl]; exact h2))
  simp only [cvr] at HC2
  clear hs h1 h2 f1 f2 f3 f4 hdl hds
  go_enter Tryd.func39, Tryd.ntmps39
  go_wp2_with (go_at_call 37; (first | ((with_reducible refine (HC1.out _).mono ?_); rintro e_ w0 ⟨rfl, rfl⟩) | ((with_reducible refine (HC2.out _).mono ?_); rintro e_ w0 ⟨rfl, rfl⟩)))
  obtain ⟨X, hX⟩ : ∃ X, X = w.alloc (.cells #[.int .i64 0, .string ⟨#[]⟩, .int .i64 0, .int .i64 1] 67) := ⟨_, rfl⟩
  have hb : X.heap[w.heap.size]? = some (.cells #[.int .i64 0, .string ⟨#[]⟩, .int .i64 0, .int .i64 1] 67 (0, 0)) := by rw [hX]; exact heap_alloc_new w _
  have HX := Lib.hid (show Below w.heap.size w X by rw [hX]; exact (Below.refl _ w).alloc (Nat.le_refl _) _)
  rw [← hX]
  clear hX
  obtain ⟨c0, c1, c2, c3⟩ := laid4 hb
  clear hb
  exact bodyPost_ret (v := .agg #[.int .i64 0, .string ⟨#[]⟩, .int .i64 0, .int .i64 1]) (by simp [results, Tryd.results39, go_sem, c0, c1, c2, c3]; try rfl) rfl ⟨rfl, HX.out⟩
set_option maxHeartbeats 4000000 in
set_option maxRecDepth 100000 in
theorem rho_C1 (s : ByteArray) (w : World) (hs : s.size ≤ 400) (v k v2 k2 : Nat) (h1 : vrd 0 0 s.data.toList = some (v, k)) (h2 : vrd 0 0 (s.data.toList.drop k) = some (v2, k2)) (hv : 1000000 < v) :
    Calls Tryd.prog 39 #[.string s] w fun e w' => e = .returned (.agg #[.int .i64 0, .string ⟨#[]⟩, .int .i64 0, .int .i64 2]) ∧ Below w.heap.size w w' := by
  have HC1 := Lib.hid (fun W => codVarRead_any s W (by omega) (some (v, k)) h1)
  simp only [cvr] at HC1
  have HSZ := Lib.hid (show s.data.toList.length = s.size by rw [Array.length_toList]; rfl)
  obtain ⟨f1, f2, f3, f4⟩ := vrd_facts _ 0 0 v k (by decide) h1
  have hk1 : (k : Int) ≤ (s.size : Int) := by have := HSZ.out; omega
  have hk2 : k ≤ s.size := by omega
  have hdl := drop_str s k
  have hds := drop_size s k hs
  obtain ⟨t2, ht2⟩ : ∃ t2, s.extract k s.size = t2 := ⟨_, rfl⟩
  rw [ht2] at hdl hds
  have HC2 := Lib.hid (fun W => codVarRead_any t2 W hds (some (v2, k2)) (by rw [hdl]; exact h2))
  simp only [cvr] at HC2
  obtain ⟨g1, g2, g3, g4⟩ := vrd_facts _ 0 0 v2 k2 (by decide) h2
  rw [List.length_drop, HSZ.out] at g3
  have q1 : 1000000 < (v : Int) := by omega
  clear hs h1 h2 f1 f2 f3 f4 hdl hds g1 g2 g3 g4 hv
  go_enter Tryd.func39, Tryd.ntmps39
  go_wp2_with (go_at_call 37; (first | ((with_reducible refine (HC1.out _).mono ?_); rintro e_ w0 ⟨rfl, rfl⟩) | ((with_reducible refine (HC2.out _).mono ?_); rintro e_ w0 ⟨rfl, rfl⟩)))
  obtain ⟨X, hX⟩ : ∃ X, X = w.alloc (.cells #[.int .i64 0, .string ⟨#[]⟩, .int .i64 0, .int .i64 2] 67) := ⟨_, rfl⟩
  have hb : X.heap[w.heap.size]? = some (.cells #[.int .i64 0, .string ⟨#[]⟩, .int .i64 0, .int .i64 2] 67 (0, 0)) := by rw [hX]; exact heap_alloc_new w _
  have HX := Lib.hid (show Below w.heap.size w X by rw [hX]; exact (Below.refl _ w).alloc (Nat.le_refl _) _)
  rw [← hX]
  clear hX
  obtain ⟨c0, c1, c2, c3⟩ := laid4 hb
  clear hb
  exact bodyPost_ret (v := .agg #[.int .i64 0, .string ⟨#[]⟩, .int .i64 0, .int .i64 2]) (by simp [results, Tryd.results39, go_sem, c0, c1, c2, c3]; try rfl) rfl ⟨rfl, HX.out⟩
set_option maxHeartbeats 4000000 in
set_option maxRecDepth 100000 in
theorem rho_C2 (s : ByteArray) (w : World) (hs : s.size ≤ 400) (v k v2 k2 : Nat) (h1 : vrd 0 0 s.data.toList = some (v, k)) (h2 : vrd 0 0 (s.data.toList.drop k) = some (v2, k2)) (hv : ¬ 1000000 < v) (hv2 : 1000000 < v2) :
    Calls Tryd.prog 39 #[.string s] w fun e w' => e = .returned (.agg #[.int .i64 0, .string ⟨#[]⟩, .int .i64 0, .int .i64 2]) ∧ Below w.heap.size w w' := by
  have HC1 := Lib.hid (fun W => codVarRead_any s W (by omega) (some (v, k)) h1)
  simp only [cvr] at HC1
  have HSZ := Lib.hid (show s.data.toList.length = s.size by rw [Array.length_toList]; rfl)
  obtain ⟨f1, f2, f3, f4⟩ := vrd_facts _ 0 0 v k (by decide) h1
  have hk1 : (k : Int) ≤ (s.size : Int) := by have := HSZ.out; omega
  have hk2 : k ≤ s.size := by omega
  have hdl := drop_str s k
  have hds := drop_size s k hs
  obtain ⟨t2, ht2⟩ : ∃ t2, s.extract k s.size = t2 := ⟨_, rfl⟩
  rw [ht2] at hdl hds
  have HC2 := Lib.hid (fun W => codVarRead_any t2 W hds (some (v2, k2)) (by rw [hdl]; exact h2))
  simp only [cvr] at HC2
  obtain ⟨g1, g2, g3, g4⟩ := vrd_facts _ 0 0 v2 k2 (by decide) h2
  rw [List.length_drop, HSZ.out] at g3
  have q1 : ¬ 1000000 < (v : Int) := by omega
  have q2 : 1000000 < (v2 : Int) := by omega
  clear hs h1 h2 f1 f2 f3 f4 hdl hds g1 g2 g3 g4 hv hv2
  go_enter Tryd.func39, Tryd.ntmps39
  go_wp2_with (go_at_call 37; (first | ((with_reducible refine (HC1.out _).mono ?_); rintro e_ w0 ⟨rfl, rfl⟩) | ((with_reducible refine (HC2.out _).mono ?_); rintro e_ w0 ⟨rfl, rfl⟩)))
  obtain ⟨X, hX⟩ : ∃ X, X = w.alloc (.cells #[.int .i64 0, .string ⟨#[]⟩, .int .i64 0, .int .i64 2] 67) := ⟨_, rfl⟩
  have hb : X.heap[w.heap.size]? = some (.cells #[.int .i64 0, .string ⟨#[]⟩, .int .i64 0, .int .i64 2] 67 (0, 0)) := by rw [hX]; exact heap_alloc_new w _
  have HX := Lib.hid (show Below w.heap.size w X by rw [hX]; exact (Below.refl _ w).alloc (Nat.le_refl _) _)
  rw [← hX]
  clear hX
  obtain ⟨c0, c1, c2, c3⟩ := laid4 hb
  clear hb
  exact bodyPost_ret (v := .agg #[.int .i64 0, .string ⟨#[]⟩, .int .i64 0, .int .i64 2]) (by simp [results, Tryd.results39, go_sem, c0, c1, c2, c3]; try rfl) rfl ⟨rfl, HX.out⟩
set_option maxHeartbeats 4000000 in
set_option maxRecDepth 100000 in
theorem rho_D1 (s : ByteArray) (w : World) (hs : s.size ≤ 400) (v k v2 k2 : Nat) (h1 : vrd 0 0 s.data.toList = some (v, k)) (h2 : vrd 0 0 (s.data.toList.drop k) = some (v2, k2)) (hv : ¬ 1000000 < v) (hv2 : ¬ 1000000 < v2) (hd : v < v2) :
    Calls Tryd.prog 39 #[.string s] w fun e w' => e = .returned (.agg #[.int .i64 0, .string ⟨#[]⟩, .int .i64 0, .int .i64 1]) ∧ Below w.heap.size w w' := by
  have HC1 := Lib.hid (fun W => codVarRead_any s W (by omega) (some (v, k)) h1)
  simp only [cvr] at HC1
  have HSZ := Lib.hid (show s.data.toList.length = s.size by rw [Array.length_toList]; rfl)
  obtain ⟨f1, f2, f3, f4⟩ := vrd_facts _ 0 0 v k (by decide) h1
  have hk1 : (k : Int) ≤ (s.size : Int) := by have := HSZ.out; omega
  have hk2 : k ≤ s.size := by omega
  have hdl := drop_str s k
  have hds := drop_size s k hs
  obtain ⟨t2, ht2⟩ : ∃ t2, s.extract k s.size = t2 := ⟨_, rfl⟩
  rw [ht2] at hdl hds
  have HC2 := Lib.hid (fun W => codVarRead_any t2 W hds (some (v2, k2)) (by rw [hdl]; exact h2))
  simp only [cvr] at HC2
  obtain ⟨g1, g2, g3, g4⟩ := vrd_facts _ 0 0 v2 k2 (by decide) h2
  rw [List.length_drop, HSZ.out] at g3
  have q1 : ¬ 1000000 < (v : Int) := by omega
  have q2 : ¬ 1000000 < (v2 : Int) := by omega
  have q3 : (v : Int) < (v2 : Int) := by omega
  clear hs h1 h2 f1 f2 f3 f4 hdl hds g1 g2 g3 g4 hv hv2 hd
  go_enter Tryd.func39, Tryd.ntmps39
  go_wp2_with (go_at_call 37; (first | ((with_reducible refine (HC1.out _).mono ?_); rintro e_ w0 ⟨rfl, rfl⟩) | ((with_reducible refine (HC2.out _).mono ?_); rintro e_ w0 ⟨rfl, rfl⟩)))
  obtain ⟨X, hX⟩ : ∃ X, X = w.alloc (.cells #[.int .i64 0, .string ⟨#[]⟩, .int .i64 0, .int .i64 1] 67) := ⟨_, rfl⟩
  have hb : X.heap[w.heap.size]? = some (.cells #[.int .i64 0, .string ⟨#[]⟩, .int .i64 0, .int .i64 1] 67 (0, 0)) := by rw [hX]; exact heap_alloc_new w _
  have HX := Lib.hid (show Below w.heap.size w X by rw [hX]; exact (Below.refl _ w).alloc (Nat.le_refl _) _)
  rw [← hX]
  clear hX
  obtain ⟨c0, c1, c2, c3⟩ := laid4 hb
  clear hb
  exact bodyPost_ret (v := .agg #[.int .i64 0, .string ⟨#[]⟩, .int .i64 0, .int .i64 1]) (by simp [results, Tryd.results39, go_sem, c0, c1, c2, c3]; try rfl) rfl ⟨rfl, HX.out⟩
set_option maxHeartbeats 4000000 in
set_option maxRecDepth 100000 in
theorem rho_D2 (s : ByteArray) (w : World) (hs : s.size ≤ 400) (v k v2 k2 : Nat) (h1 : vrd 0 0 s.data.toList = some (v, k)) (h2 : vrd 0 0 (s.data.toList.drop k) = some (v2, k2)) (hv : ¬ 1000000 < v) (hv2 : ¬ 1000000 < v2) (hd : ¬ v < v2) (he : s.size < k + k2 + v2) :
    Calls Tryd.prog 39 #[.string s] w fun e w' => e = .returned (.agg #[.int .i64 0, .string ⟨#[]⟩, .int .i64 0, .int .i64 1]) ∧ Below w.heap.size w w' := by
  have HC1 := Lib.hid (fun W => codVarRead_any s W (by omega) (some (v, k)) h1)
  simp only [cvr] at HC1
  have HSZ := Lib.hid (show s.data.toList.length = s.size by rw [Array.length_toList]; rfl)
  obtain ⟨f1, f2, f3, f4⟩ := vrd_facts _ 0 0 v k (by decide) h1
  have hk1 : (k : Int) ≤ (s.size : Int) := by have := HSZ.out; omega
  have hk2 : k ≤ s.size := by omega
  have hdl := drop_str s k
  have hds := drop_size s k hs
  obtain ⟨t2, ht2⟩ : ∃ t2, s.extract k s.size = t2 := ⟨_, rfl⟩
  rw [ht2] at hdl hds
  have HC2 := Lib.hid (fun W => codVarRead_any t2 W hds (some (v2, k2)) (by rw [hdl]; exact h2))
  simp only [cvr] at HC2
  obtain ⟨g1, g2, g3, g4⟩ := vrd_facts _ 0 0 v2 k2 (by decide) h2
  rw [List.length_drop, HSZ.out] at g3
  have q1 : ¬ 1000000 < (v : Int) := by omega
  have q2 : ¬ 1000000 < (v2 : Int) := by omega
  have q3 : ¬ (v : Int) < (v2 : Int) := fun e => hd (Int.ofNat_lt.1 e)
  have g3' : k2 ≤ s.size - k := by rw [Nat.zero_add] at g3; exact g3
  obtain ⟨y, hy⟩ : ∃ y, s.size - k = y := ⟨_, rfl⟩
  obtain ⟨z, hz⟩ : ∃ z, y - k2 = z := ⟨_, rfl⟩
  have hs' : s.size ≤ 2000000 := Nat.le_trans hs (by decide)
  obtain ⟨q4, q4'⟩ := wsub hk2 hs'
  rw [hy] at q4 q4' g3'
  obtain ⟨q5, q5'⟩ := wsub g3' (show y ≤ 2000000 by rw [← hy]; exact Nat.le_trans (Nat.sub_le _ _) hs')
  rw [hz] at q5 q5'
  have q6 := wid (a := v2) (Nat.le_trans (elim_le hv2) (by decide))
  have q7 := wid (a := v) (Nat.le_trans (elim_le hv) (by decide))
  have q8 : (z : Int) < (v2 : Int) := zlt (by rw [hy]; exact hz) he (by rw [hy]; exact g3') hk2
  clear hs h1 h2 f1 f2 f3 f4 hdl hds g1 g2 g3 g4 hv hv2 hd he hz hy hs' g3'
  go_enter Tryd.func39, Tryd.ntmps39
  go_wp2_with (go_at_call 37; (first | ((with_reducible refine (HC1.out _).mono ?_); rintro e_ w0 ⟨rfl, rfl⟩) | ((with_reducible refine (HC2.out _).mono ?_); rintro e_ w0 ⟨rfl, rfl⟩)))
  obtain ⟨X, hX⟩ : ∃ X, X = w.alloc (.cells #[.int .i64 0, .string ⟨#[]⟩, .int .i64 0, .int .i64 1] 67) := ⟨_, rfl⟩
  have hb : X.heap[w.heap.size]? = some (.cells #[.int .i64 0, .string ⟨#[]⟩, .int .i64 0, .int .i64 1] 67 (0, 0)) := by rw [hX]; exact heap_alloc_new w _
  have HX := Lib.hid (show Below w.heap.size w X by rw [hX]; exact (Below.refl _ w).alloc (Nat.le_refl _) _)
  rw [← hX]
  clear hX
  obtain ⟨c0, c1, c2, c3⟩ := laid4 hb
  clear hb
  exact bodyPost_ret (v := .agg #[.int .i64 0, .string ⟨#[]⟩, .int .i64 0, .int .i64 1]) (by simp [results, Tryd.results39, go_sem, c0, c1, c2, c3]; try rfl) rfl ⟨rfl, HX.out⟩
set_option maxHeartbeats 4000000 in
set_option maxRecDepth 100000 in
theorem rho_E (s : ByteArray) (w : World) (hs : s.size ≤ 400) (v k v2 k2 : Nat) (h1 : vrd 0 0 s.data.toList = some (v, k)) (h2 : vrd 0 0 (s.data.toList.drop k) = some (v2, k2)) (hv : ¬ 1000000 < v) (hv2 : ¬ 1000000 < v2) (hd : ¬ v < v2) (he : ¬ s.size < k + k2 + v2) (a b : Nat) (ha : k + k2 = a) (hb0 : a + v2 = b) :
    Calls Tryd.prog 39 #[.string s] w fun e w' => e = .returned (.agg #[.int .i64 v, .string (s.extract a b), .int .i64 b, .int .i64 0]) ∧ Below w.heap.size w w' := by
  have HC1 := Lib.hid (fun W => codVarRead_any s W (by omega) (some (v, k)) h1)
  simp only [cvr] at HC1
  have HSZ := Lib.hid (show s.data.toList.length = s.size by rw [Array.length_toList]; rfl)
  obtain ⟨f1, f2, f3, f4⟩ := vrd_facts _ 0 0 v k (by decide) h1
  have hk1 : (k : Int) ≤ (s.size : Int) := by have := HSZ.out; omega
  have hk2 : k ≤ s.size := by omega
  have hdl := drop_str s k
  have hds := drop_size s k hs
  obtain ⟨t2, ht2⟩ : ∃ t2, s.extract k s.size = t2 := ⟨_, rfl⟩
  rw [ht2] at hdl hds
  have HC2 := Lib.hid (fun W => codVarRead_any t2 W hds (some (v2, k2)) (by rw [hdl]; exact h2))
  simp only [cvr] at HC2
  obtain ⟨g1, g2, g3, g4⟩ := vrd_facts _ 0 0 v2 k2 (by decide) h2
  rw [List.length_drop, HSZ.out] at g3
  have q1 : ¬ 1000000 < (v : Int) := by omega
  have q2 : ¬ 1000000 < (v2 : Int) := by omega
  have q3 : ¬ (v : Int) < (v2 : Int) := fun e => hd (Int.ofNat_lt.1 e)
  have g3' : k2 ≤ s.size - k := by rw [Nat.zero_add] at g3; exact g3
  obtain ⟨y, hy⟩ : ∃ y, s.size - k = y := ⟨_, rfl⟩
  obtain ⟨z, hz⟩ : ∃ z, y - k2 = z := ⟨_, rfl⟩
  have hs' : s.size ≤ 2000000 := Nat.le_trans hs (by decide)
  obtain ⟨q4, q4'⟩ := wsub hk2 hs'
  rw [hy] at q4 q4' g3'
  obtain ⟨q5, q5'⟩ := wsub g3' (show y ≤ 2000000 by rw [← hy]; exact Nat.le_trans (Nat.sub_le _ _) hs')
  rw [hz] at q5 q5'
  have q6 := wid (a := v2) (Nat.le_trans (elim_le hv2) (by decide))
  have q7 := wid (a := v) (Nat.le_trans (elim_le hv) (by decide))
  have q8 : ¬ (z : Int) < (v2 : Int) := znlt (by rw [hy]; exact hz) he
  obtain ⟨q9, q9'⟩ := wadd (a := k) (b := k2) (Nat.le_trans f4 (by decide)) (Nat.le_trans g4 (by decide))
  rw [ha] at q9 q9'
  have ha2 : a ≤ 2000000 := by rw [← ha]; exact Nat.le_trans (Nat.add_le_add f4 g4) (by decide)
  obtain ⟨q10, q10'⟩ := wadd (a := a) (b := v2) ha2 (Nat.le_trans (elim_le hv2) (by decide))
  rw [hb0] at q10 q10'
  obtain ⟨q11, q13⟩ := bab hb0
  obtain ⟨q12, q14⟩ := bsz ha hb0 he
  clear ha2
  clear hs h1 h2 f1 f2 f3 f4 hdl hds g1 g2 g3 g4 hv hv2 hd he hz hy hs' g3' ha hb0
  go_enter Tryd.func39, Tryd.ntmps39
  go_wp2_with (go_at_call 37; (first | ((with_reducible refine (HC1.out _).mono ?_); rintro e_ w0 ⟨rfl, rfl⟩) | ((with_reducible refine (HC2.out _).mono ?_); rintro e_ w0 ⟨rfl, rfl⟩)))
  obtain ⟨X, hX⟩ : ∃ X, X = w.alloc (.cells #[.int .i64 v, .string (s.extract a b), .int .i64 b, .int .i64 0] 67) := ⟨_, rfl⟩
  have hb : X.heap[w.heap.size]? = some (.cells #[.int .i64 v, .string (s.extract a b), .int .i64 b, .int .i64 0] 67 (0, 0)) := by rw [hX]; exact heap_alloc_new w _
  have HX := Lib.hid (show Below w.heap.size w X by rw [hX]; exact (Below.refl _ w).alloc (Nat.le_refl _) _)
  rw [← hX]
  clear hX
  obtain ⟨c0, c1, c2, c3⟩ := laid4 hb
  clear hb
  exact bodyPost_ret (v := .agg #[.int .i64 v, .string (s.extract a b), .int .i64 b, .int .i64 0]) (by simp [results, Tryd.results39, go_sem, c0, c1, c2, c3]; try rfl) rfl ⟨rfl, HX.out⟩
end Go.Proofs.YtgdbeiadlgkedaaDoor

/- Contracts: a row's header is read. -/
namespace Go.Proofs.YtgdbeiadlgkedaaDoor
open Go.RowKit
set_option linter.unusedVariables false
set_option linter.unusedSimpArgs false

set_option maxHeartbeats 4000000 in
set_option maxRecDepth 100000 in
theorem rrh_A (B : Nat) (pe pl : Addr) (r g : Nat) (l : List UInt8) (w : World) (h : Rd r g l 0 w) (he : Env B pe pl w) (hBr : B ≤ r) (hB : B ≤ w.heap.size) (h1 : vrd 0 0 l = none) :
    Calls Tryd.prog 90 #[rdI r] w fun e w' => ∃ (x : Int) (ev : Value), e = .returned (.tuple #[.int .i64 x, .slice none 0 0, ev]) ∧ Fell r g l w w' ev := by
  have HE := Lib.hid (And.intro he (And.intro hBr hB))
  have HC := Lib.hid (decVarI_bad B pe pl r g l 0 w h he hBr (by rw [List.drop_zero]; exact h1))
  clear h he hBr hB h1
  go_enter Tryd.func90, Tryd.ntmps90
  go_wp2_with (go_at_call 60; go_loud (refine HC.out.mono ?_; rintro e_ w1 ⟨ev, rfl, h1⟩; obtain ⟨a, s, rfl, h2⟩ : ∃ a s, ev = errV a ∧ Hid (w1.cell? a = some (.string s) ∧ s.data.toList ≠ []) := (by obtain ⟨a, s, e1, e2, e3⟩ := h1.2.1; exact ⟨a, s, e1, Lib.hid ⟨e2, e3⟩⟩); have H1 := Lib.hid h1; clear h1))
  go_ret3
  exact ⟨0, errV a, rfl, H1.out⟩
set_option maxHeartbeats 4000000 in
set_option maxRecDepth 100000 in
theorem rrh_B (B : Nat) (pe pl : Addr) (r g : Nat) (l : List UInt8) (w : World) (h : Rd r g l 0 w) (he : Env B pe pl w) (hBr : B ≤ r) (hB : B ≤ w.heap.size) (v k : Nat) (h1 : vrd 0 0 l = some (v, k)) (h2 : vrd 0 0 (l.drop k) = none) :
    Calls Tryd.prog 90 #[rdI r] w fun e w' => ∃ (x : Int) (ev : Value), e = .returned (.tuple #[.int .i64 x, .slice none 0 0, ev]) ∧ Fell r g l w w' ev := by
  have HE := Lib.hid (And.intro he (And.intro hBr hB))
  have HC := Lib.hid (decVarI_ok B pe pl r g l 0 v k w h he hBr (by rw [List.drop_zero]; exact h1))
  rw [Nat.zero_add] at HC
  have HV2 := Lib.hid h2
  clear h he hBr hB h1 h2
  go_enter Tryd.func90, Tryd.ntmps90
  go_wp2_with (go_at_call 60; (first | ((with_reducible refine HC.out.mono ?_); rintro e_ w1 ⟨rfl, h1, h2⟩; have H1 := Lib.hid h1; have H2 := Lib.hid h2; clear h1 h2) | ((with_reducible refine (decVarI_bad B pe pl r g l k w1 H2.out (HE.out.1.below (grown_below H1.out HE.out.2.2 HE.out.2.1)) HE.out.2.1 HV2.out).mono ?_); rintro e_ w2 ⟨ev, rfl, h1⟩; obtain ⟨a, s, rfl, h2⟩ : ∃ a s, ev = errV a ∧ Hid (w2.cell? a = some (.string s) ∧ s.data.toList ≠ []) := (by obtain ⟨a, s, e1, e2, e3⟩ := h1.2.1; exact ⟨a, s, e1, Lib.hid ⟨e2, e3⟩⟩); have H3 := Lib.hid h1; clear h1)))
  go_ret3
  exact ⟨_, errV a, rfl, grown_trans H1.out H3.out.1, H3.out.2.1, H3.out.2.2⟩
set_option maxHeartbeats 4000000 in
set_option maxRecDepth 100000 in
theorem rrh_D1 (B : Nat) (pe pl : Addr) (r g : Nat) (l : List UInt8) (w : World) (h : Rd r g l 0 w) (he : Env B pe pl w) (hBr : B ≤ r) (hB : B ≤ w.heap.size) (v k v2 k2 : Nat) (h1 : vrd 0 0 l = some (v, k)) (h2 : vrd 0 0 (l.drop k) = some (v2, k2)) (hv : ¬ 1000000 < v) (hv2 : ¬ 1000000 < v2) (hd : v < v2) :
    Calls Tryd.prog 90 #[rdI r] w fun e w' => ∃ (x : Int) (ev : Value), e = .returned (.tuple #[.int .i64 x, .slice none 0 0, ev]) ∧ Fell r g l w w' ev := by
  have HE := Lib.hid (And.intro he (And.intro hBr hB))
  have HC := Lib.hid (decVarI_ok B pe pl r g l 0 v k w h he hBr (by rw [List.drop_zero]; exact h1))
  rw [Nat.zero_add] at HC
  have HV2 := Lib.hid h2
  have q6 := wid (a := v2) (Nat.le_trans (elim_le hv2) (by decide))
  have q7 := wid (a := v) (Nat.le_trans (elim_le hv) (by decide))
  have hz : v2 ≠ 0 := Nat.ne_of_gt (Nat.lt_of_le_of_lt (Nat.zero_le _) hd)
  have z0 : ((v2 : Int) == 0) = false := by rw [beq_eq_false_iff_ne]; exact fun e => hz (Int.natCast_eq_zero.1 e)
  have q3 : (v : Int) < (v2 : Int) := Int.ofNat_lt.2 hd
  clear h he hBr hB h1 h2 hv hv2 hd hz
  go_enter Tryd.func90, Tryd.ntmps90
  go_wp2_with (first
    | (go_at_call 60; (first | ((with_reducible refine HC.out.mono ?_); rintro e_ w1 ⟨rfl, h1, h2⟩; have H1 := Lib.hid h1; have H2 := Lib.hid h2; clear h1 h2) | ((with_reducible refine (decVarI_ok B pe pl r g l k v2 k2 w1 H2.out (HE.out.1.below (grown_below H1.out HE.out.2.2 HE.out.2.1)) HE.out.2.1 HV2.out).mono ?_); rintro e_ w2 ⟨rfl, h1, h2⟩; have H3 := Lib.hid (grown_trans H1.out h1); have H4 := Lib.hid h2; clear h1 h2)))
    | (go_at_call 95; go_loud (refine (errNew_any _ _).mono ?_; rintro e_ w3 ⟨rfl, rfl⟩)))
  go_ret3
  exact ⟨_, _, rfl, err_new _ (by simp) H3.out H4.out⟩
set_option maxHeartbeats 4000000 in
set_option maxRecDepth 100000 in
theorem rrh_D2 (B : Nat) (pe pl : Addr) (r g : Nat) (l : List UInt8) (w : World) (h : Rd r g l 0 w) (he : Env B pe pl w) (hBr : B ≤ r) (hB : B ≤ w.heap.size) (v k v2 k2 : Nat) (h1 : vrd 0 0 l = some (v, k)) (h2 : vrd 0 0 (l.drop k) = some (v2, k2)) (hv : ¬ 1000000 < v) (hv2 : ¬ 1000000 < v2) (hd : ¬ v < v2) (hz : v2 ≠ 0) (hl : ¬ k + k2 + v2 ≤ l.length) :
    Calls Tryd.prog 90 #[rdI r] w fun e w' => ∃ (x : Int) (ev : Value), e = .returned (.tuple #[.int .i64 x, .slice none 0 0, ev]) ∧ Fell r g l w w' ev := by
  have HE := Lib.hid (And.intro he (And.intro hBr hB))
  have HC := Lib.hid (decVarI_ok B pe pl r g l 0 v k w h he hBr (by rw [List.drop_zero]; exact h1))
  rw [Nat.zero_add] at HC
  have HV2 := Lib.hid h2
  have q6 := wid (a := v2) (Nat.le_trans (elim_le hv2) (by decide))
  have q7 := wid (a := v) (Nat.le_trans (elim_le hv) (by decide))
  have z0 : ((v2 : Int) == 0) = false := by rw [beq_eq_false_iff_ne]; exact fun e => hz (Int.natCast_eq_zero.1 e)
  have q3 : ¬ (v : Int) < (v2 : Int) := fun e => hd (Int.ofNat_lt.1 e)
  have km := mk_bytes v2 (elim_le hv2)
  have HN := Lib.hid (And.intro hz (And.intro hl (elim_le hv2)))
  clear h he hBr hB h1 h2 hv hv2 hd hz hl
  go_enter Tryd.func90, Tryd.ntmps90
  go_wp2_with (first
    | (go_at_call 60; (first | ((with_reducible refine HC.out.mono ?_); rintro e_ w1 ⟨rfl, h1, h2⟩; have H1 := Lib.hid h1; have H2 := Lib.hid h2; clear h1 h2) | ((with_reducible refine (decVarI_ok B pe pl r g l k v2 k2 w1 H2.out (HE.out.1.below (grown_below H1.out HE.out.2.2 HE.out.2.1)) HE.out.2.1 HV2.out).mono ?_); rintro e_ w2 ⟨rfl, h1, h2⟩; have H3 := Lib.hid (grown_trans H1.out h1); have H4 := Lib.hid h2; clear h1 h2)))
    | (go_at_call 94; go_loud (refine (fix_bad B pe pl r g l (k + k2) w2.heap.size v2 (madeCells #[.int .u8 0] (v2 * 1)) 5 (w2.alloc (mkz v2)) (H4.out.alloc _) (HE.out.1.below ((grown_below H3.out HE.out.2.2 HE.out.2.1).alloc (Nat.le_trans HE.out.2.2 H3.out.size) _)) HE.out.2.1 (Nat.le_trans HE.out.2.2 H3.out.size) (Nat.pos_of_ne_zero HN.out.1) (Nat.le_trans HN.out.2.2 (by decide)) HN.out.2.1 (heap_alloc_new w2 _) (H4.out.ge (mkz v2)).1 (H4.out.ge (mkz v2)).2 (mkz_size v2)).mono ?_; rintro e_ w3 ⟨rfl, h1, h2⟩; have H5 := Lib.hid h1; have H6 := Lib.hid (Two.grown (grown_alloc H3.out _) h2 H3.out.size); clear h1 h2)))
  go_ret3
  exact ⟨_, _, rfl, H6.out, (HE.out.1.below (grown_below H6.out HE.out.2.2 HE.out.2.1)).errE, _, H5.out⟩
set_option maxHeartbeats 4000000 in
set_option maxRecDepth 100000 in
theorem rrh_E0 (B : Nat) (pe pl : Addr) (r g : Nat) (l : List UInt8) (w : World) (h : Rd r g l 0 w) (he : Env B pe pl w) (hBr : B ≤ r) (hB : B ≤ w.heap.size) (v k k2 : Nat) (h1 : vrd 0 0 l = some (v, k)) (h2 : vrd 0 0 (l.drop k) = some (0, k2)) (hv : ¬ 1000000 < v) :
    Calls Tryd.prog 90 #[rdI r] w fun e w' => e = .returned (.tuple #[.int .i64 v, .slice none 0 0, .nilIface]) ∧ w.grownBy w' (some r) ∧ Rd r g l (k + k2) w' := by
  have HE := Lib.hid (And.intro he (And.intro hBr hB))
  have HC := Lib.hid (decVarI_ok B pe pl r g l 0 v k w h he hBr (by rw [List.drop_zero]; exact h1))
  rw [Nat.zero_add] at HC
  have HV2 := Lib.hid h2
  have q6 : wrap64 0 = 0 := by unfold wrap64; omega
  have q7 := wid (a := v) (Nat.le_trans (elim_le hv) (by decide))
  clear h he hBr hB h1 h2 hv
  go_enter Tryd.func90, Tryd.ntmps90
  go_wp2_with (go_at_call 60; (first | ((with_reducible refine HC.out.mono ?_); rintro e_ w1 ⟨rfl, h1, h2⟩; have H1 := Lib.hid h1; have H2 := Lib.hid h2; clear h1 h2) | ((with_reducible refine (decVarI_ok B pe pl r g l k 0 k2 w1 H2.out (HE.out.1.below (grown_below H1.out HE.out.2.2 HE.out.2.1)) HE.out.2.1 HV2.out).mono ?_); rintro e_ w2 ⟨rfl, h1, h2⟩; have H3 := Lib.hid (grown_trans H1.out h1); have H4 := Lib.hid h2; clear h1 h2)))
  go_ret3
  exact ⟨rfl, H3.out, H4.out⟩
set_option maxHeartbeats 4000000 in
set_option maxRecDepth 100000 in
theorem rrh_E1 (B : Nat) (pe pl : Addr) (r g : Nat) (l : List UInt8) (w : World) (h : Rd r g l 0 w) (he : Env B pe pl w) (hBr : B ≤ r) (hB : B ≤ w.heap.size) (v k v2 k2 : Nat) (h1 : vrd 0 0 l = some (v, k)) (h2 : vrd 0 0 (l.drop k) = some (v2, k2)) (hv : ¬ 1000000 < v) (hv2 : ¬ 1000000 < v2) (hd : ¬ v < v2) (hz : v2 ≠ 0) (hl : k + k2 + v2 ≤ l.length) :
    Calls Tryd.prog 90 #[rdI r] w fun e w' => ∃ d : Nat, e = .returned (.tuple #[.int .i64 v, .slice (some ⟨d, 0, none⟩) v2 v2, .nilIface]) ∧ At w' ⟨d, 0, none⟩ ((l.drop (k + k2)).take v2) ∧ w.grownBy w' (some r) ∧ Rd r g l (k + k2 + v2) w' := by
  have HE := Lib.hid (And.intro he (And.intro hBr hB))
  have HC := Lib.hid (decVarI_ok B pe pl r g l 0 v k w h he hBr (by rw [List.drop_zero]; exact h1))
  rw [Nat.zero_add] at HC
  have HV2 := Lib.hid h2
  have q6 := wid (a := v2) (Nat.le_trans (elim_le hv2) (by decide))
  have q7 := wid (a := v) (Nat.le_trans (elim_le hv) (by decide))
  have z0 : ((v2 : Int) == 0) = false := by rw [beq_eq_false_iff_ne]; exact fun e => hz (Int.natCast_eq_zero.1 e)
  have q3 : ¬ (v : Int) < (v2 : Int) := fun e => hd (Int.ofNat_lt.1 e)
  have km := mk_bytes v2 (elim_le hv2)
  have HN := Lib.hid (And.intro hz (And.intro hl (elim_le hv2)))
  clear h he hBr hB h1 h2 hv hv2 hd hz hl
  go_enter Tryd.func90, Tryd.ntmps90
  go_wp2_with (first
    | (go_at_call 60; (first | ((with_reducible refine HC.out.mono ?_); rintro e_ w1 ⟨rfl, h1, h2⟩; have H1 := Lib.hid h1; have H2 := Lib.hid h2; clear h1 h2) | ((with_reducible refine (decVarI_ok B pe pl r g l k v2 k2 w1 H2.out (HE.out.1.below (grown_below H1.out HE.out.2.2 HE.out.2.1)) HE.out.2.1 HV2.out).mono ?_); rintro e_ w2 ⟨rfl, h1, h2⟩; have H3 := Lib.hid (grown_trans H1.out h1); have H4 := Lib.hid h2; clear h1 h2)))
    | (go_at_call 94; go_loud (refine (fix_ok r g l (k + k2) w2.heap.size v2 (madeCells #[.int .u8 0] (v2 * 1)) 5 (w2.alloc (mkz v2)) (H4.out.alloc _) (Nat.pos_of_ne_zero HN.out.1) HN.out.2.1 (heap_alloc_new w2 _) (H4.out.ge (mkz v2)).1 (H4.out.ge (mkz v2)).2 (mkz_size v2)).mono ?_; rintro e_ w3 ⟨rfl, h1, h3, h2⟩; have H5 := Lib.hid h1; have H7 := Lib.hid h3; have H6 := Lib.hid (Two.grown (grown_alloc H3.out _) h2 H3.out.size); clear h1 h2 h3)))
  go_ret3
  exact ⟨_, rfl, H7.out, H6.out, H5.out⟩
end Go.Proofs.YtgdbeiadlgkedaaDoor

/- The walk of the statement on the reading of a row's header. -/
namespace Go.Proofs.YtgdbeiadlgkedaaDoor
open Go.RowKit
set_option linter.unusedVariables false
set_option linter.unusedSimpArgs false

theorem conv_backN (W : World) (d n : Nat) (l : List UInt8) (h : At W ⟨d, 0, none⟩ l) (hl : l.length = n) (m : Nat) :
    (convert 29 9 (.slice (some ⟨d, 0, none⟩) n n)).run Tryd.prog (W.drewN m) = .ok (.string ⟨l.toArray⟩) (W.drewN m) := by
  subst hl
  exact run_convert_bytes_back (P := Tryd.prog) (W.drewN m) 29 9 5 ⟨d, 0, none⟩ l.length l Tryd.underlying29 Tryd.underlying5 Tryd.underlying9 (fun j hj => by
    rw [Lib.addr_add]
    exact h.get (List.getElem?_eq_getElem hj))
set_option maxHeartbeats 4000000 in
set_option maxRecDepth 100000 in
theorem rhI_E0 (B : Nat) (pe pl : Addr) (t : ByteArray) (w : World) (ht : t.size ≤ 400) (he : Env B pe pl w) (hB : B ≤ w.heap.size) (v K : Nat) (hC : ∀ (r : Nat) (w1 : World), Rd r w.heap.size t.data.toList 0 w1 → Env B pe pl w1 → B ≤ r → B ≤ w1.heap.size → Calls Tryd.prog 90 #[rdI r] w1 fun e w' => e = .returned (.tuple #[.int .i64 v, .slice none 0 0, .nilIface]) ∧ w1.grownBy w' (some r) ∧ Rd r w.heap.size t.data.toList K w') :
    Calls Tryd.prog 40 #[.string t] w fun e w' => e = .returned (.tuple #[.int .i64 v, .string ⟨#[]⟩, .bool false, .int .i64 K, .string ⟨#[]⟩]) ∧ Below w.heap.size w w' := by
  have kc := conv_bytes
  have kz := conv_none
  have HS := Lib.hid (And.intro ht (And.intro hB he))
  clear ht he hB
  have HC := Lib.hid hC
  clear hC
  go_enter Tryd.func40, Tryd.ntmps40
  go_wp2_with (first
    | (go_at_call 45; go_loud (refine (newRd_any w w.heap.size rfl t (Nat.le_trans HS.out.1 (by decide))).mono ?_; rintro e_ w1 ⟨r, rfl, hr1, hr2, hr3⟩; have HR := Lib.hid (And.intro hr1 (And.intro hr2 hr3)); clear hr1 hr2 hr3))
    | (go_at_call 90; go_loud (obtain ⟨a1, a2, a3⟩ := rn_start HS.out.2.1 HS.out.2.2 HR.out.2.1 HR.out.2.2; refine (HC.out r w1 HR.out.1 a1 a2 a3).mono ?_; clear a1 a2 a3; rintro e_ w2 ⟨rfl, h2, h3⟩; have HB := Lib.hid (HR.out.2.1.trans (grown_below h2 HR.out.2.1.size (Nat.le_of_lt HR.out.2.2))); have HRD := Lib.hid h3; obtain ⟨L, hL⟩ : ∃ L, Hid (t.data.toList.length - K = L) := ⟨_, Lib.hid rfl⟩; have qs : (t.size : Int) - (L : Int) = (K : Int) := (by have h1 := h3.le; have h2 : t.data.toList.length = t.size := (by rw [Array.length_toList]; rfl); have := hL.out; omega); have qs2 : IntKind.i64.wrap (K : Int) = (K : Int) := IntWalk.i64_in _ (by have := h3.le; have := h3.len; omega); have qs3 : wrap64 (K : Int) = (K : Int) := IntWalk.wrap64_in _ (by have := h3.le; have := h3.len; omega); clear h2 h3)))
  go_region_with (first
    | (go_at_call 62; refine (len_any r w.heap.size t.data.toList K _ ?rd).mono ?_; (case rd => exact HRD.out.drewN 1); rw [hL.out]; rintro e_ w4 ⟨rfl, q4, rfl⟩)
    | (go_at_call 63; refine (word_nil _).mono ?_; rintro e_ w5 ⟨rfl, rfl⟩))
  all_goals
    go_wp2
    exact bodyPost_ret (v := .tuple #[.int .i64 v, .string ⟨#[]⟩, .bool false, .int .i64 K, .string ⟨#[]⟩]) (by simp [results, Tryd.results40, go_sem]; try rfl) rfl ⟨rfl, below_drewN HB.out (1 + q4)⟩
set_option maxHeartbeats 4000000 in
set_option maxRecDepth 100000 in
theorem rhI_E1 (B : Nat) (pe pl : Addr) (t : ByteArray) (w : World) (ht : t.size ≤ 400) (he : Env B pe pl w) (hB : B ≤ w.heap.size) (v n K : Nat) (bs : List UInt8) (hbs : bs.length = n) (hC : ∀ (r : Nat) (w1 : World), Rd r w.heap.size t.data.toList 0 w1 → Env B pe pl w1 → B ≤ r → B ≤ w1.heap.size → Calls Tryd.prog 90 #[rdI r] w1 fun e w' => ∃ d : Nat, e = .returned (.tuple #[.int .i64 v, .slice (some ⟨d, 0, none⟩) n n, .nilIface]) ∧ At w' ⟨d, 0, none⟩ bs ∧ w1.grownBy w' (some r) ∧ Rd r w.heap.size t.data.toList K w') :
    Calls Tryd.prog 40 #[.string t] w fun e w' => e = .returned (.tuple #[.int .i64 v, .string ⟨bs.toArray⟩, .bool true, .int .i64 K, .string ⟨#[]⟩]) ∧ Below w.heap.size w w' := by
  have kc := conv_bytes
  have kz := conv_none
  have HS := Lib.hid (And.intro ht (And.intro hB he))
  clear ht he hB
  have HC := Lib.hid hC
  have HBS := Lib.hid hbs
  clear hC hbs
  go_enter Tryd.func40, Tryd.ntmps40
  go_wp2_with (first
    | (go_at_call 45; go_loud (refine (newRd_any w w.heap.size rfl t (Nat.le_trans HS.out.1 (by decide))).mono ?_; rintro e_ w1 ⟨r, rfl, hr1, hr2, hr3⟩; have HR := Lib.hid (And.intro hr1 (And.intro hr2 hr3)); clear hr1 hr2 hr3))
    | (go_at_call 90; go_loud (obtain ⟨a1, a2, a3⟩ := rn_start HS.out.2.1 HS.out.2.2 HR.out.2.1 HR.out.2.2; refine (HC.out r w1 HR.out.1 a1 a2 a3).mono ?_; clear a1 a2 a3; rintro e_ w2 ⟨d, rfl, h1, h2, h3⟩; have kb := conv_back w2 d n bs h1 HBS.out; have kbN := conv_backN w2 d n bs h1 HBS.out; have HB := Lib.hid (HR.out.2.1.trans (grown_below h2 HR.out.2.1.size (Nat.le_of_lt HR.out.2.2))); have HRD := Lib.hid h3; obtain ⟨L, hL⟩ : ∃ L, Hid (t.data.toList.length - K = L) := ⟨_, Lib.hid rfl⟩; have qs : (t.size : Int) - (L : Int) = (K : Int) := (by have h1 := h3.le; have h2 : t.data.toList.length = t.size := (by rw [Array.length_toList]; rfl); have := hL.out; omega); have qs2 : IntKind.i64.wrap (K : Int) = (K : Int) := IntWalk.i64_in _ (by have := h3.le; have := h3.len; omega); have qs3 : wrap64 (K : Int) = (K : Int) := IntWalk.wrap64_in _ (by have := h3.le; have := h3.len; omega); clear h1 h2 h3)))
  go_region_with (first
    | (go_at_call 62; refine (len_any r w.heap.size t.data.toList K _ ?rd).mono ?_; (case rd => exact HRD.out.drewN 1); rw [hL.out]; rintro e_ w4 ⟨rfl, q4, rfl⟩)
    | (go_at_call 63; refine (word_nil _).mono ?_; rintro e_ w5 ⟨rfl, rfl⟩))
  all_goals
    go_wp2
    exact bodyPost_ret (v := .tuple #[.int .i64 v, .string ⟨bs.toArray⟩, .bool true, .int .i64 K, .string ⟨#[]⟩]) (by simp [results, Tryd.results40, go_sem]; try rfl) rfl ⟨rfl, below_drewN HB.out (1 + q4)⟩
set_option maxHeartbeats 4000000 in
set_option maxRecDepth 100000 in
theorem rhI_bad (B : Nat) (pe pl : Addr) (t : ByteArray) (w : World) (ht : t.size ≤ 400) (he : Env B pe pl w) (hB : B ≤ w.heap.size) (hC : ∀ (r : Nat) (w1 : World), Rd r w.heap.size t.data.toList 0 w1 → Env B pe pl w1 → B ≤ r → B ≤ w1.heap.size → Calls Tryd.prog 90 #[rdI r] w1 fun e w' => ∃ (x : Int) (ev : Value), e = .returned (.tuple #[.int .i64 x, .slice none 0 0, ev]) ∧ Fell r w.heap.size t.data.toList w1 w' ev) :
    Calls Tryd.prog 40 #[.string t] w fun e w' => ∃ (x : Int) (i : Nat) (s : ByteArray), e = .returned (.tuple #[.int .i64 x, .string ⟨#[]⟩, .bool false, .int .i64 i, .string s]) ∧ s.data.toList ≠ [] ∧ Below w.heap.size w w' := by
  have kc := conv_bytes
  have kz := conv_none
  have HS := Lib.hid (And.intro ht (And.intro hB he))
  clear ht he hB
  have HC := Lib.hid hC
  clear hC
  go_enter Tryd.func40, Tryd.ntmps40
  go_wp2_with (first
    | (go_at_call 45; go_loud (refine (newRd_any w w.heap.size rfl t (Nat.le_trans HS.out.1 (by decide))).mono ?_; rintro e_ w1 ⟨r, rfl, hr1, hr2, hr3⟩; have HR := Lib.hid (And.intro hr1 (And.intro hr2 hr3)); clear hr1 hr2 hr3))
    | (go_at_call 90; go_loud (obtain ⟨a1, a2, a3⟩ := rn_start HS.out.2.1 HS.out.2.2 HR.out.2.1 HR.out.2.2; refine (HC.out r w1 HR.out.1 a1 a2 a3).mono ?_; clear a1 a2 a3; rintro e_ w2 ⟨x, ev, rfl, h2, h4, K, h3⟩; obtain ⟨a, s, rfl, h6⟩ : ∃ a s, ev = errV a ∧ Hid (w2.cell? a = some (.string s) ∧ s.data.toList ≠ []) := (by obtain ⟨a, s, e1, e2, e3⟩ := h4; exact ⟨a, s, e1, Lib.hid ⟨e2, e3⟩⟩); have HEW := h6; have HB := Lib.hid (HR.out.2.1.trans (grown_below h2 HR.out.2.1.size (Nat.le_of_lt HR.out.2.2))); have HRD := Lib.hid h3; obtain ⟨L, hL⟩ : ∃ L, Hid (t.data.toList.length - K = L) := ⟨_, Lib.hid rfl⟩; have qs : (t.size : Int) - (L : Int) = (K : Int) := (by have h1 := h3.le; have h2 : t.data.toList.length = t.size := (by rw [Array.length_toList]; rfl); have := hL.out; omega); have qs2 : IntKind.i64.wrap (K : Int) = (K : Int) := IntWalk.i64_in _ (by have := h3.le; have := h3.len; omega); have qs3 : wrap64 (K : Int) = (K : Int) := IntWalk.wrap64_in _ (by have := h3.le; have := h3.len; omega); clear h2 h3 h4 h6)))
  go_region_with (first
    | (go_at_call 62; refine (len_any r w.heap.size t.data.toList K _ ?rd).mono ?_; (case rd => exact HRD.out.drewN 1); rw [hL.out]; rintro e_ w4 ⟨rfl, q4, rfl⟩)
    | (go_at_call 63; refine (word_err a s _ ?wd).mono ?_; (case wd => exact HEW.out.1); rintro e_ w5 ⟨rfl, rfl⟩))
  all_goals
    go_wp2
    exact bodyPost_ret (v := .tuple #[.int .i64 x, .string ⟨#[]⟩, .bool false, .int .i64 (K : Nat), .string s]) (by simp [results, Tryd.results40, go_sem]; try rfl) rfl ⟨x, K, s, rfl, HEW.out.2, below_drewN HB.out (1 + q4)⟩
end Go.Proofs.YtgdbeiadlgkedaaDoor
