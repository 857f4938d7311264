/- The walk of the statement on the reading of a simple header. -/
import Derived.Test.YtgdbeiadlgkedaaDoorL11
namespace Go.Proofs.YtgdbeiadlgkedaaDoor
open Go.RowKit
set_option linter.unusedVariables false
set_option linter.unusedSimpArgs false

theorem rsh_none1 {n : Int} {l : List UInt8} {v k : Nat} (h : vrd 0 0 l = some (v, k)) (hn : wrap64 (v : Int) ≠ n) : rsh n l = none := by
  unfold rsh; simp only [h]; rw [if_neg hn]
theorem rsh_none2 {n : Int} {l : List UInt8} {v k : Nat} (h : vrd 0 0 l = some (v, k)) (h2 : vrd 0 0 (l.drop k) = none) : rsh n l = none := by
  unfold rsh; simp only [h, h2]; split <;> rfl
theorem rsh_none3 {n : Int} {l : List UInt8} {v k v2 k2 : Nat} (h : vrd 0 0 l = some (v, k)) (h2 : vrd 0 0 (l.drop k) = some (v2, k2)) (h0 : wrap64 (v2 : Int) ≠ 0) : rsh n l = none := by
  unfold rsh; simp only [h, h2, if_neg h0]; split <;> rfl
theorem rsh_some {n : Int} {l : List UInt8} {v k v2 k2 : Nat} (h : vrd 0 0 l = some (v, k)) (h2 : vrd 0 0 (l.drop k) = some (v2, k2)) (hn : wrap64 (v : Int) = n) (h0 : wrap64 (v2 : Int) = 0) : rsh n l = some (k + k2) := by
  unfold rsh; simp only [h, h2, if_pos hn, if_pos h0]
theorem kk_fact {k k2 z : Nat} (h1 : k ≤ 10) (h2 : k2 ≤ 10) (hz : k + k2 = z) : wrap64 ((k : Int) + (k2 : Int)) = (z : Int) ∧ IntKind.i64.wrap ((k : Int) + (k2 : Int)) = (z : Int) := by
  have h : wrap64 ((k : Int) + (k2 : Int)) = (z : Int) := by unfold wrap64; omega
  exact ⟨h, by rw [IntWalk.i64_in _ (by omega)]; omega⟩
set_option maxHeartbeats 8000000 in
set_option maxRecDepth 100000 in
theorem rowSimpleRead_row (pe pl : Addr) (n : Int) (s : ByteArray) (w : World) (hn : (Lit.int .i64 n).wf = true) (he : Env w.heap.size pe pl w) :
    Calls Tryd.prog 15 #[.int .i64 n, .string s] w fun e w' => e = .returned (.bool true) ∧ Below w.heap.size w w' := by
  have HE := Lib.hid he
  by_cases h1 : 2147483647 < s.size
  · have hc : 2147483647 < (s.size : Int) := by omega
    clear he hn h1
    go_enter Tryd.func15, Tryd.ntmps15
    go_wp2
    go_ret
    exact ⟨rfl, Below.refl _ w⟩
  · have hc : ¬ 2147483647 < (s.size : Int) := by omega
    have HA := Lib.hid (awake_any w.heap.size pe pl w he (Nat.le_refl _))
    by_cases c1 : n < 0
    · clear he hn h1
      go_enter Tryd.func15, Tryd.ntmps15
      go_wp2_with (go_at_call 21; go_loud (refine HA.out.mono ?_; rintro e_ w1 ⟨rfl, hb1⟩; have HB1 := Lib.hid hb1; clear hb1))
      go_ret
      exact ⟨rfl, HB1.out⟩
    · by_cases c2 : 1000000 < n
      · clear he hn h1
        go_enter Tryd.func15, Tryd.ntmps15
        go_wp2_with (go_at_call 21; go_loud (refine HA.out.mono ?_; rintro e_ w1 ⟨rfl, hb1⟩; have HB1 := Lib.hid hb1; clear hb1))
        go_ret
        exact ⟨rfl, HB1.out⟩
      · by_cases c5 : 100 < (s.size : Int)
        · clear he hn h1
          go_enter Tryd.func15, Tryd.ntmps15
          go_wp2_with (go_at_call 21; go_loud (refine HA.out.mono ?_; rintro e_ w1 ⟨rfl, hb1⟩; have HB1 := Lib.hid hb1; clear hb1))
          go_ret
          exact ⟨rfl, HB1.out⟩
        · obtain ⟨m, rfl⟩ := Int.eq_ofNat_of_zero_le (show 0 ≤ n by omega)
          have HK := Lib.hid (show m ≤ 1000000 ∧ s.size ≤ 100 ∧ s.size ≤ 4294967296 by omega)
          have c2' : ¬ 1000000 < (m : Int) := c2
          have hcv : IntKind.u64.wrap (m : Int) = (m : Int) := by rw [IntKind.wrap_u64]; have := HK.out; omega
          have HSZ := Lib.hid (show s.data.toList.length = s.size by rw [Array.length_toList]; rfl)
          cases hv : vrd 0 0 s.data.toList with
          | none =>
            have HC1 := Lib.hid (fun W => codVarRead_any s W HK.out.2.2 none hv)
            simp only [cvr] at HC1
            clear he hn h1 c1 c2 hv
            go_enter Tryd.func15, Tryd.ntmps15
            go_wp2_with (first
              | (go_at_call 37; go_loud (refine (HC1.out _).mono ?_; rintro e_ w0 ⟨rfl, rfl⟩))
              | (go_at_call 21; go_loud (refine HA.out.mono ?_; rintro e_ w1 ⟨rfl, hb1⟩; have HB1 := Lib.hid hb1; clear hb1)))
            go_ret
            exact ⟨rfl, HB1.out⟩
          | some p =>
            obtain ⟨v, k⟩ := p
            obtain ⟨f1, f2, f3, f4⟩ := vrd_facts _ 0 0 v k (by decide) hv
            have HC1 := Lib.hid (fun W => codVarRead_any s W HK.out.2.2 (some (v, k)) hv)
            simp only [cvr] at HC1
            by_cases c6 : 1000000 < v
            · have c6' : 1000000 < (v : Int) := by omega
              clear he hn h1 c1 c2 hv f1 f2 f3 f4 c6
              go_enter Tryd.func15, Tryd.ntmps15
              go_wp2_with (first
                | (go_at_call 37; go_loud (refine (HC1.out _).mono ?_; rintro e_ w0 ⟨rfl, rfl⟩))
                | (go_at_call 21; go_loud (refine HA.out.mono ?_; rintro e_ w1 ⟨rfl, hb1⟩; have HB1 := Lib.hid hb1; clear hb1)))
              go_ret
              exact ⟨rfl, HB1.out⟩
            · have c6' : ¬ 1000000 < (v : Int) := by omega
              have hk1 : (k : Int) ≤ (s.size : Int) := by have := HSZ.out; omega
              have hk2 : k ≤ s.size := by omega
              obtain ⟨t2, ht2⟩ : ∃ t2, s.extract k s.size = t2 := ⟨_, rfl⟩
              have HT2 := Lib.hid (show t2.data.toList = s.data.toList.drop k by rw [← ht2, Lib.extract_data, List.take_of_length_le (by rw [List.length_drop, HSZ.out]; omega)])
              have HTS := Lib.hid (show t2.size ≤ 4294967296 by
                have e : t2.data.toList.length = t2.size := by rw [Array.length_toList]; rfl
                rw [← e, HT2.out, List.length_drop, HSZ.out]; omega)
              have hvw : wrap64 (v : Int) = (v : Int) := by unfold wrap64; omega
              cases hv2 : vrd 0 0 (s.data.toList.drop k) with
              | none =>
                have HC2 := Lib.hid (fun W => codVarRead_any t2 W HTS.out none (by rw [HT2.out]; exact hv2))
                simp only [cvr] at HC2
                have HD := Lib.hid (sho_bad w.heap.size pe pl m s w HK.out.2.2 he (Nat.le_refl _) (rsh_none2 hv hv2))
                clear he hn h1 c1 c2 hv hv2 f1 f2 f3 f4 c6
                go_enter Tryd.func15, Tryd.ntmps15
                go_wp2_with (first
                  | (go_at_call 37; (first | ((with_reducible refine (HC1.out _).mono ?_); rintro e_ w0 ⟨rfl, rfl⟩) | ((with_reducible refine (HC2.out _).mono ?_); rintro e_ w0 ⟨rfl, rfl⟩)))
                  | (go_at_call 38; go_loud (refine (HD.out).mono ?_; rintro e_ w1 ⟨i1, s1, rfl, hs1, hb1⟩; have hne1 := ne_empty hs1; have HB1 := Lib.hid hb1; clear hb1 hs1))
                  | (go_at_call 21; go_loud (refine (awake_any w.heap.size pe pl _ (HE.out.below HB1.out) HB1.out.size).mono ?_; rintro e_ w2 ⟨rfl, hb2⟩; have HB2 := Lib.hid (HB1.out.trans (hb2.mono HB1.out.size)); clear hb2)))
                go_ret
                exact ⟨rfl, HB2.out⟩
              | some p =>
                obtain ⟨v2, k2⟩ := p
                obtain ⟨g1, g2, g3, g4⟩ := vrd_facts _ 0 0 v2 k2 (by decide) hv2
                have HC2 := Lib.hid (fun W => codVarRead_any t2 W HTS.out (some (v2, k2)) (by rw [HT2.out]; exact hv2))
                simp only [cvr] at HC2
                by_cases c7 : 1000000 < v2
                · have c7' : 1000000 < (v2 : Int) := by omega
                  clear he hn h1 c1 c2 hv hv2 f1 f2 f3 f4 c6 c7 g1 g2 g3 g4
                  go_enter Tryd.func15, Tryd.ntmps15
                  go_wp2_with (first
                    | (go_at_call 37; (first | ((with_reducible refine (HC1.out _).mono ?_); rintro e_ w0 ⟨rfl, rfl⟩) | ((with_reducible refine (HC2.out _).mono ?_); rintro e_ w0 ⟨rfl, rfl⟩)))
                    | (go_at_call 21; go_loud (refine HA.out.mono ?_; rintro e_ w1 ⟨rfl, hb1⟩; have HB1 := Lib.hid hb1; clear hb1)))
                  go_ret
                  exact ⟨rfl, HB1.out⟩
                · have c7' : ¬ 1000000 < (v2 : Int) := by omega
                  have hvw2 : wrap64 (v2 : Int) = (v2 : Int) := by unfold wrap64; omega
                  by_cases c8 : v = m
                  · have e8 : (v : Int) = (m : Int) := by rw [c8]
                    by_cases c9 : v2 = 0
                    · have e9 : (v2 : Int) = 0 := by rw [c9]; rfl
                      obtain ⟨z, hz⟩ : ∃ z, k + k2 = z := ⟨_, rfl⟩
                      obtain ⟨hkk, hkk2⟩ := kk_fact f4 g4 hz
                      have HD := Lib.hid (sho_ok w.heap.size pe pl m s z w HK.out.2.2 he (Nat.le_refl _) (hz ▸ rsh_some hv hv2 (by rw [hvw]; exact e8) (by rw [hvw2]; exact e9)))
                      clear hz
                      have d8 : ((v : Int) != (m : Int)) = false := bne_eq_false_iff_eq.2 e8
                      have d9 : ((v2 : Int) != 0) = false := bne_eq_false_iff_eq.2 e9
                      clear e8 e9
                      clear he hn h1 c1 c2 hv hv2 f1 f2 f3 f4 c6 c7 g1 g2 g3 g4 c8 c9
                      go_enter Tryd.func15, Tryd.ntmps15
                      go_wp2_with (first
                        | (go_at_call 37; (first | ((with_reducible refine (HC1.out _).mono ?_); rintro e_ w0 ⟨rfl, rfl⟩) | ((with_reducible refine (HC2.out _).mono ?_); rintro e_ w0 ⟨rfl, rfl⟩)))
                        | (go_at_call 38; go_loud (refine (HD.out).mono ?_; rintro e_ w1 ⟨rfl, hb1⟩; have HB1 := Lib.hid hb1; clear hb1))
                        | (go_at_call 21; go_loud (refine (awake_any w.heap.size pe pl _ (HE.out.below HB1.out) HB1.out.size).mono ?_; rintro e_ w2 ⟨rfl, hb2⟩; have HB2 := Lib.hid (HB1.out.trans (hb2.mono HB1.out.size)); clear hb2)))
                      go_ret
                      exact ⟨rfl, HB2.out⟩
                    · have e9 : (v2 : Int) ≠ 0 := fun e => c9 (Int.natCast_eq_zero.1 e)
                      have HD := Lib.hid (sho_bad w.heap.size pe pl m s w HK.out.2.2 he (Nat.le_refl _) (rsh_none3 hv hv2 (by rw [hvw2]; exact e9)))
                      have d8 : ((v : Int) != (m : Int)) = false := bne_eq_false_iff_eq.2 e8
                      have d9 : ((v2 : Int) != 0) = true := bne_iff_ne.2 e9
                      clear e8 e9
                      clear he hn h1 c1 c2 hv hv2 f1 f2 f3 f4 c6 c7 g1 g2 g3 g4 c8 c9
                      go_enter Tryd.func15, Tryd.ntmps15
                      go_wp2_with (first
                        | (go_at_call 37; (first | ((with_reducible refine (HC1.out _).mono ?_); rintro e_ w0 ⟨rfl, rfl⟩) | ((with_reducible refine (HC2.out _).mono ?_); rintro e_ w0 ⟨rfl, rfl⟩)))
                        | (go_at_call 38; go_loud (refine (HD.out).mono ?_; rintro e_ w1 ⟨i1, s1, rfl, hs1, hb1⟩; have hne1 := ne_empty hs1; have HB1 := Lib.hid hb1; clear hb1 hs1))
                        | (go_at_call 21; go_loud (refine (awake_any w.heap.size pe pl _ (HE.out.below HB1.out) HB1.out.size).mono ?_; rintro e_ w2 ⟨rfl, hb2⟩; have HB2 := Lib.hid (HB1.out.trans (hb2.mono HB1.out.size)); clear hb2)))
                      go_ret
                      exact ⟨rfl, HB2.out⟩
                  · have e8 : (v : Int) ≠ (m : Int) := fun e => c8 (Int.ofNat.inj e)
                    have HD := Lib.hid (sho_bad w.heap.size pe pl m s w HK.out.2.2 he (Nat.le_refl _) (rsh_none1 hv (by rw [hvw]; exact e8)))
                    have d8 : ((v : Int) != (m : Int)) = true := bne_iff_ne.2 e8
                    clear e8
                    clear he hn h1 c1 c2 hv hv2 f1 f2 f3 f4 c6 c7 g1 g2 g3 g4 c8
                    go_enter Tryd.func15, Tryd.ntmps15
                    go_wp2_with (first
                      | (go_at_call 37; (first | ((with_reducible refine (HC1.out _).mono ?_); rintro e_ w0 ⟨rfl, rfl⟩) | ((with_reducible refine (HC2.out _).mono ?_); rintro e_ w0 ⟨rfl, rfl⟩)))
                      | (go_at_call 38; go_loud (refine (HD.out).mono ?_; rintro e_ w1 ⟨i1, s1, rfl, hs1, hb1⟩; have hne1 := ne_empty hs1; have HB1 := Lib.hid hb1; clear hb1 hs1))
                      | (go_at_call 21; go_loud (refine (awake_any w.heap.size pe pl _ (HE.out.below HB1.out) HB1.out.size).mono ?_; rintro e_ w2 ⟨rfl, hb2⟩; have HB2 := Lib.hid (HB1.out.trans (hb2.mono HB1.out.size)); clear hb2)))
                    go_ret
                    exact ⟨rfl, HB2.out⟩
end Go.Proofs.YtgdbeiadlgkedaaDoor
