/- The walk of the statement on a row's simple header. -/
import Derived.Test.YtgdbeiadlgkedaaDoorL9
import Derived.WalkSmall
namespace Go.Proofs.YtgdbeiadlgkedaaDoor
open Go.RowKit
open Go.Joins (below_bytesWorld)
set_option linter.unusedVariables false
set_option linter.unusedSimpArgs false

set_option maxHeartbeats 4000000 in
set_option maxRecDepth 100000 in
theorem sho_ok (B : Nat) (pe pl : Addr) (n : Int) (t : ByteArray) (k : Nat) (w : World) (ht : t.size ≤ 4294967296) (he : Env B pe pl w) (hB : B ≤ w.heap.size) (hR : rsh n t.data.toList = some k) :
    Calls Tryd.prog 38 #[.int .i64 n, .string t] w fun e w' => e = .returned (.tuple #[.int .i64 k, .string ⟨#[]⟩]) ∧ Below w.heap.size w w' := by
  have kc := conv_bytes
  have HS := Lib.hid (And.intro ht (And.intro hB he))
  have HK := Lib.hid hR
  clear ht he hB hR
  have HC : Hid (∀ (r : Nat) (w1 : World), Rd r w.heap.size t.data.toList 0 w1 → Below w.heap.size w w1 → w.heap.size < r → Calls Tryd.prog 89 #[.int .i64 n, rdI r] w1 fun e w' => e = .returned .nilIface ∧ w1.grownBy w' (some r) ∧ Rd r w.heap.size t.data.toList k w') := Lib.hid (fun r w1 h1 h2 h3 => by
    obtain ⟨a1, a2, a3⟩ := rn_start HS.out.2.1 HS.out.2.2 h2 h3
    refine (readSimple_any B pe pl r _ n _ w1 h1 a1 a2 a3 _ HK.out).mono ?_
    rintro e w' (⟨k', hk, b1, b2, b3⟩ | ⟨hn, _⟩)
    · obtain rfl := Option.some.inj hk; exact ⟨b1, b2, b3⟩
    · exact absurd hn (by simp))
  go_enter Tryd.func38, Tryd.ntmps38
  go_wp2_with (first
    | (go_at_call 45; go_loud (refine (newRd_any w w.heap.size rfl t HS.out.1).mono ?_; rintro e_ w1 ⟨r, rfl, hr1, hr2, hr3⟩; have HR := Lib.hid (And.intro hr1 (And.intro hr2 hr3)); clear hr1 hr2 hr3))
    | (go_at_call 89; go_loud (refine (HC.out r w1 HR.out.1 HR.out.2.1 HR.out.2.2).mono ?_; rintro e_ w2 ⟨rfl, h2, h3⟩; have HB := Lib.hid (HR.out.2.1.trans (grown_below h2 HR.out.2.1.size (Nat.le_of_lt HR.out.2.2))); have HRD := Lib.hid h3; obtain ⟨L, hL⟩ : ∃ L, Hid (t.data.toList.length - k = L) := ⟨_, Lib.hid rfl⟩; have qs : (t.size : Int) - (L : Int) = (k : Int) := (by have h1 := h3.le; have h2 : t.data.toList.length = t.size := (by rw [Array.length_toList]; rfl); have := hL.out; omega); have qs2 : IntKind.i64.wrap (k : Int) = (k : Int) := IntWalk.i64_in _ (by have := h3.le; have := h3.len; omega); have qs3 : wrap64 (k : Int) = (k : Int) := IntWalk.wrap64_in _ (by have := h3.le; have := h3.len; omega); clear h2 h3))
    | (go_at_call 62; go_loud (refine (len_any r w.heap.size t.data.toList k w2 HRD.out).mono ?_; rw [hL.out]; rintro e_ w4 ⟨rfl, q4, rfl⟩))
    | (go_at_call 63; go_loud (refine (word_nil _).mono ?_; rintro e_ w5 ⟨rfl, rfl⟩)))
  go_ret2
  exact ⟨rfl, below_drewN HB.out q4⟩
set_option maxHeartbeats 4000000 in
set_option maxRecDepth 100000 in
theorem sho_bad (B : Nat) (pe pl : Addr) (n : Int) (t : ByteArray) (w : World) (ht : t.size ≤ 4294967296) (he : Env B pe pl w) (hB : B ≤ w.heap.size) (hR : rsh n t.data.toList = none) :
    Calls Tryd.prog 38 #[.int .i64 n, .string t] w fun e w' => ∃ (i : Nat) (s : ByteArray), e = .returned (.tuple #[.int .i64 i, .string s]) ∧ s.data.toList ≠ [] ∧ Below w.heap.size w w' := by
  have kc := conv_bytes
  have HS := Lib.hid (And.intro ht (And.intro hB he))
  have HK := Lib.hid hR
  clear ht he hB hR
  have HC : Hid (∀ (r : Nat) (w1 : World), Rd r w.heap.size t.data.toList 0 w1 → Below w.heap.size w w1 → w.heap.size < r → Calls Tryd.prog 89 #[.int .i64 n, rdI r] w1 fun e w' => ∃ (a : Addr) (s : ByteArray) (i : Nat), e = .returned (errV a) ∧ w1.grownBy w' (some r) ∧ Rd r w.heap.size t.data.toList i w' ∧ w'.cell? a = some (.string s) ∧ s.data.toList ≠ []) := Lib.hid (fun r w1 h1 h2 h3 => by
    obtain ⟨a1, a2, a3⟩ := rn_start HS.out.2.1 HS.out.2.2 h2 h3
    refine (readSimple_any B pe pl r _ n _ w1 h1 a1 a2 a3 _ HK.out).mono ?_
    rintro e w' (⟨k', hk, _⟩ | ⟨_, ev, b1, b2, ⟨a, s, e1, e2, e3⟩, i, b3⟩)
    · exact absurd hk (by simp)
    · exact ⟨a, s, i, by rw [b1, e1], b2, b3, e2, e3⟩)
  go_enter Tryd.func38, Tryd.ntmps38
  go_wp2_with (first
    | (go_at_call 45; go_loud (refine (newRd_any w w.heap.size rfl t HS.out.1).mono ?_; rintro e_ w1 ⟨r, rfl, hr1, hr2, hr3⟩; have HR := Lib.hid (And.intro hr1 (And.intro hr2 hr3)); clear hr1 hr2 hr3))
    | (go_at_call 89; go_loud (refine (HC.out r w1 HR.out.1 HR.out.2.1 HR.out.2.2).mono ?_; rintro e_ w2 ⟨a, s, k, rfl, h2, h3, h4, h5⟩; have HB := Lib.hid (HR.out.2.1.trans (grown_below h2 HR.out.2.1.size (Nat.le_of_lt HR.out.2.2))); have HRD := Lib.hid h3; have HEW := Lib.hid (And.intro h4 h5); obtain ⟨L, hL⟩ : ∃ L, Hid (t.data.toList.length - k = L) := ⟨_, Lib.hid rfl⟩; have qs : (t.size : Int) - (L : Int) = (k : Int) := (by have h1 := h3.le; have h2 : t.data.toList.length = t.size := (by rw [Array.length_toList]; rfl); have := hL.out; omega); have qs2 : IntKind.i64.wrap (k : Int) = (k : Int) := IntWalk.i64_in _ (by have := h3.le; have := h3.len; omega); have qs3 : wrap64 (k : Int) = (k : Int) := IntWalk.wrap64_in _ (by have := h3.le; have := h3.len; omega); clear h2 h3 h4 h5))
    | (go_at_call 62; go_loud (refine (len_any r w.heap.size t.data.toList k w2 HRD.out).mono ?_; rw [hL.out]; rintro e_ w4 ⟨rfl, q4, rfl⟩))
    | (go_at_call 63; go_loud (refine (word_err a s (w2.drewN q4) (by exact HEW.out.1)).mono ?_; rintro e_ w5 ⟨rfl, rfl⟩)))
  go_ret2
  exact ⟨k, s, rfl, HEW.out.2, below_drewN HB.out q4⟩
theorem conv_empty (W : World) (d : Nat) :
    (convert 29 9 (.slice (some ⟨d, 0, none⟩) 0 0)).run Tryd.prog W = .ok (.string ⟨#[]⟩) W :=
  run_convert_bytes_back (P := Tryd.prog) W 29 9 5 ⟨d, 0, none⟩ 0 [] Tryd.underlying29 Tryd.underlying5 Tryd.underlying9 (fun j hj => absurd hj (by simp))
theorem add_any (s t : ByteArray) (h : s.data.toList.length + t.data.toList.length ≤ 1000000) : ∀ W : World, (Op.stringOp .add s t).run Tryd.prog W = .ok (.string (s ++ t)) W := fun W =>
  run_string_add_sum W s t (by rw [Array.length_toList, Array.length_toList] at h; show s.data.size + t.data.size ≤ _; omega)
theorem uv0 : Lib.uvarint 0 = [0] := by rw [Lib.uvarint_small (by decide)]; rfl
theorem shead_len (n : Nat) (hn : n ≤ 1000000) : (shead n).length ≤ 11 := by
  unfold shead
  have := Lib.uvarint_length64 (x := n) (by omega)
  rw [List.length_append, uv0]; simp; omega
set_option maxHeartbeats 4000000 in
set_option maxRecDepth 100000 in
theorem rowHead_nil (n : Nat) (w : World) (hn : n ≤ 1000000) :
    Calls Tryd.prog 42 #[.int .i64 n, .slice none 0 0] w fun e w' => e = .returned (.string ⟨(shead n).toArray⟩) ∧ Below w.heap.size w w' := by
  have km : ∀ W : World, (Instr.makeSlice 29 (.int .i64 0) (.int .i64 0)).run Tryd.prog W = .ok (.slice (some ⟨W.heap.size, 0, none⟩) 0 0) (W.alloc (mkz 0)) := fun W => mk_bytes 0 (by omega) W
  have q1 : IntKind.u64.wrap (n : Int) = (n : Int) := by rw [IntKind.wrap_u64]; omega
  have q0 : IntKind.u64.wrap 0 = 0 := by rw [IntKind.wrap_u64]; rfl
  obtain ⟨s1, h1⟩ : ∃ s : ByteArray, s = ⟨(Lib.uvarint n).toArray⟩ := ⟨_, rfl⟩
  obtain ⟨s2, h2⟩ : ∃ s : ByteArray, s = ⟨(Lib.uvarint 0).toArray⟩ := ⟨_, rfl⟩
  have HC1 := Lib.hid (show ∀ W, Calls Tryd.prog 32 #[.int .u64 n] W fun e w' => e = .returned (.string s1) ∧ Below W.heap.size W w' from fun W => by rw [h1]; exact codVarint_any n W (by omega))
  have HC2 := Lib.hid (show ∀ W, Calls Tryd.prog 32 #[.int .u64 0] W fun e w' => e = .returned (.string s2) ∧ Below W.heap.size W w' from fun W => by rw [h2]; exact codVarint_any 0 W (by omega))
  have l1 : s1.data.toList.length ≤ 10 := by rw [h1]; exact Lib.uvarint_length64 (by omega)
  have l2 : s2.data.toList.length = 1 := by rw [h2, uv0]; rfl
  have k1 := add_any s1 s2 (by omega)
  have k2 := add_any (s1 ++ s2) ⟨#[]⟩ (by rw [data_append, List.length_append]; show _ + 0 ≤ _; omega)
  have k3 := conv_empty
  have HE := Lib.hid (show s1 ++ s2 ++ ⟨#[]⟩ = (⟨(shead n).toArray⟩ : ByteArray) from str_ext (by rw [data_append, data_append, h1, h2]; simp [shead]))
  clear hn h1 h2 l1 l2
  go_enter Tryd.func42, Tryd.ntmps42
  go_wp2
  refine wp_loop_rounds 1 ?_; rw [rounds_succ]
  go_wp2
  refine wp_loop_rounds 1 ?_; rw [rounds_succ]
  go_wp2
  go_region_with (go_at_call 32; (first
    | ((with_reducible refine (HC1.out _).mono ?_); rintro e_ w1 ⟨rfl, hb1⟩; have HB1 := Lib.hid hb1; clear hb1)
    | ((with_reducible refine (HC2.out _).mono ?_); rintro e_ w2 ⟨rfl, hb2⟩; have HB2 := Lib.hid hb2; clear hb2)))
  all_goals
    go_wp2
    go_ret
    have B0 : Below w.heap.size w (w.alloc (mkz 0)).drew := ((Below.refl _ w).alloc (Nat.le_refl _) _).drew
    have B1 := B0.trans (HB1.out.mono B0.size)
    exact ⟨ret_str HE.out, B1.trans (HB2.out.mono B1.size)⟩
theorem rsh_head (n : Nat) (m : Int) (rest : List UInt8) (hn : n ≤ 1000000) : rsh m (shead n ++ rest) = if (n : Int) = m then some (shead n).length else none := by
  have h1 : vrd 0 0 (shead n ++ rest) = some (n, (Lib.uvarint n).length) := by
    unfold shead; rw [List.append_assoc]; exact vrd_uv _ (by omega)
  have h2 : (shead n ++ rest).drop (Lib.uvarint n).length = Lib.uvarint 0 ++ rest := by
    unfold shead; rw [List.append_assoc, List.drop_left' rfl]
  have h3 : vrd 0 0 (Lib.uvarint 0 ++ rest) = some (0, (Lib.uvarint 0).length) := vrd_uv _ (by omega)
  have h4 : wrap64 (n : Int) = n := by unfold wrap64; omega
  unfold rsh
  simp only [h1, h2, h3, h4]
  split
  · rename_i h
    rw [if_pos (show wrap64 ((0 : Nat) : Int) = 0 by unfold wrap64; omega)]
    congr 1
    unfold shead
    rw [List.length_append]
  · rfl
set_option maxHeartbeats 8000000 in
set_option maxRecDepth 100000 in
theorem rowSimple_row (pe pl : Addr) (n o : Int) (s : ByteArray) (w : World) (hn : (Lit.int .i64 n).wf = true) (ho : (Lit.int .i64 o).wf = true) (he : Env w.heap.size pe pl w) :
    Calls Tryd.prog 17 #[.int .i64 n, .int .i64 o, .string s] w fun e w' => e = .returned (.bool true) ∧ Below w.heap.size w w' := by
  have HE := Lib.hid he
  by_cases h1 : 2147483647 < s.size
  · have hc : 2147483647 < (s.size : Int) := by omega
    clear he hn ho h1
    go_enter Tryd.func17, Tryd.ntmps17
    go_wp2
    go_ret
    exact ⟨rfl, Below.refl _ w⟩
  · have hc : ¬ 2147483647 < (s.size : Int) := by omega
    have HA := Lib.hid (awake_any w.heap.size pe pl w he (Nat.le_refl _))
    by_cases c1 : n < 0
    · clear he hn ho h1
      go_enter Tryd.func17, Tryd.ntmps17
      go_wp2_with (go_at_call 21; go_loud (refine HA.out.mono ?_; rintro e_ w1 ⟨rfl, hb1⟩; have HB1 := Lib.hid hb1; clear hb1))
      go_ret
      exact ⟨rfl, HB1.out⟩
    · by_cases c2 : 1000000 < n
      · clear he hn ho h1
        go_enter Tryd.func17, Tryd.ntmps17
        go_wp2_with (go_at_call 21; go_loud (refine HA.out.mono ?_; rintro e_ w1 ⟨rfl, hb1⟩; have HB1 := Lib.hid hb1; clear hb1))
        go_ret
        exact ⟨rfl, HB1.out⟩
      · by_cases c3 : o < 0
        · clear he hn ho h1
          go_enter Tryd.func17, Tryd.ntmps17
          go_wp2_with (go_at_call 21; go_loud (refine HA.out.mono ?_; rintro e_ w1 ⟨rfl, hb1⟩; have HB1 := Lib.hid hb1; clear hb1))
          go_ret
          exact ⟨rfl, HB1.out⟩
        · by_cases c4 : 1000000 < o
          · clear he hn ho h1
            go_enter Tryd.func17, Tryd.ntmps17
            go_wp2_with (go_at_call 21; go_loud (refine HA.out.mono ?_; rintro e_ w1 ⟨rfl, hb1⟩; have HB1 := Lib.hid hb1; clear hb1))
            go_ret
            exact ⟨rfl, HB1.out⟩
          · by_cases c5 : 50 < (s.size : Int)
            · clear he hn ho h1
              go_enter Tryd.func17, Tryd.ntmps17
              go_wp2_with (go_at_call 21; go_loud (refine HA.out.mono ?_; rintro e_ w1 ⟨rfl, hb1⟩; have HB1 := Lib.hid hb1; clear hb1))
              go_ret
              exact ⟨rfl, HB1.out⟩
            · obtain ⟨k, rfl⟩ := Int.eq_ofNat_of_zero_le (show 0 ≤ n by omega)
              obtain ⟨m, rfl⟩ := Int.eq_ofNat_of_zero_le (show 0 ≤ o by omega)
              have HK := Lib.hid (show k ≤ 1000000 ∧ m ≤ 1000000 ∧ s.size ≤ 50 by omega)
              have c2' : ¬ 1000000 < (k : Int) := c2
              have c4' : ¬ 1000000 < (m : Int) := c4
              obtain ⟨t, ht⟩ : ∃ t : ByteArray, t = ⟨(shead k).toArray⟩ := ⟨_, rfl⟩
              have HT := Lib.hid ht
              have hl := shead_len k HK.out.1
              have hsl : s.data.toList.length ≤ 50 := by rw [Array.length_toList]; exact HK.out.2.2
              have htl : t.data.toList = shead k := by rw [ht]
              have kadd := add_any t s (by rw [htl]; omega)
              have HU := Lib.hid (show (t ++ s).data.toList = shead k ++ s.data.toList by rw [data_append, htl])
              obtain ⟨L, hL⟩ : ∃ L, Hid ((shead k).length = L) := ⟨_, Lib.hid rfl⟩
              have htz : t.size = L := by rw [← hL.out, ← htl, Array.length_toList]; rfl
              have HUS := Lib.hid (show (t ++ s).size ≤ 4294967296 by
                have : (t ++ s).data.toList.length = (t ++ s).size := by rw [Array.length_toList]; rfl
                rw [← this, HU.out, List.length_append]; omega)
              have HC1 := Lib.hid (show ∀ W, Calls Tryd.prog 41 #[.int .i64 k] W fun e w' => e = .returned (.tuple #[.string t, .string ⟨#[]⟩]) ∧ Below W.heap.size W w' from fun W => by rw [ht]; exact simpleHeader_any k W HK.out.1)
              have HC2 := Lib.hid (show ∀ W, Calls Tryd.prog 42 #[.int .i64 k, .slice none 0 0] W fun e w' => e = .returned (.string t) ∧ Below W.heap.size W w' from fun W => by rw [ht]; exact rowHead_nil k W HK.out.1)
              have HC3 := Lib.hid (show ∀ W, Below w.heap.size w W → Calls Tryd.prog 38 #[.int .i64 k, .string (t ++ s)] W fun e w' => e = .returned (.tuple #[.int .i64 L, .string ⟨#[]⟩]) ∧ Below W.heap.size W w' from fun W hW => sho_ok w.heap.size pe pl k _ L W HUS.out (HE.out.below hW) hW.size (by rw [HU.out, rsh_head k k _ HK.out.1, if_pos rfl, hL.out]))
              clear he hn ho h1 ht hl hsl htl c1 c2 c3 c4
              by_cases hkm : m = k
              · subst hkm
                go_enter Tryd.func17, Tryd.ntmps17
                go_wp2_with (first
                  | (go_at_call 41; go_loud (refine (HC1.out _).mono ?_; rintro e_ w1 ⟨rfl, hb1⟩; have HB1 := Lib.hid hb1; clear hb1))
                  | (go_at_call 42; go_loud (refine (HC2.out _).mono ?_; rintro e_ w2 ⟨rfl, hb2⟩; have HB2 := Lib.hid (HB1.out.trans (hb2.mono HB1.out.size)); clear hb2))
                  | (go_at_call 38; (first
                    | ((with_reducible refine (HC3.out w2 HB2.out).mono ?_); rintro e_ w3 ⟨rfl, hb3⟩; have HB3 := Lib.hid (HB2.out.trans (hb3.mono HB2.out.size)); clear hb3)
                    | ((with_reducible refine (HC3.out w3 HB3.out).mono ?_); rintro e_ w4 ⟨rfl, hb4⟩; have HB4 := Lib.hid (HB3.out.trans (hb4.mono HB3.out.size)); clear hb4)))
                  | (go_at_call 21; go_loud (refine (awake_any w.heap.size pe pl _ (HE.out.below HB4.out) HB4.out.size).mono ?_; rintro e_ w5 ⟨rfl, hb5⟩; have HB5 := Lib.hid (HB4.out.trans (hb5.mono HB4.out.size)); clear hb5)))
                go_ret
                exact ⟨rfl, HB5.out⟩
              · have HC4 := Lib.hid (show ∀ W, Below w.heap.size w W → Calls Tryd.prog 38 #[.int .i64 m, .string (t ++ s)] W fun e w' => ∃ (i : Nat) (s : ByteArray), e = .returned (.tuple #[.int .i64 i, .string s]) ∧ s.data.toList ≠ [] ∧ Below W.heap.size W w' from fun W hW => sho_bad w.heap.size pe pl m _ W HUS.out (HE.out.below hW) hW.size (by rw [HU.out, rsh_head k m _ HK.out.1, if_neg (by omega)]))
                have hne : ((m : Int) == (k : Int)) = false := by rw [beq_eq_false_iff_ne]; omega
                clear hkm
                go_enter Tryd.func17, Tryd.ntmps17
                go_wp2_with (first
                  | (go_at_call 41; go_loud (refine (HC1.out _).mono ?_; rintro e_ w1 ⟨rfl, hb1⟩; have HB1 := Lib.hid hb1; clear hb1))
                  | (go_at_call 42; go_loud (refine (HC2.out _).mono ?_; rintro e_ w2 ⟨rfl, hb2⟩; have HB2 := Lib.hid (HB1.out.trans (hb2.mono HB1.out.size)); clear hb2))
                  | (go_at_call 38; (first
                    | ((with_reducible refine (HC3.out w2 HB2.out).mono ?_); rintro e_ w3 ⟨rfl, hb3⟩; have HB3 := Lib.hid (HB2.out.trans (hb3.mono HB2.out.size)); clear hb3)
                    | ((with_reducible refine (HC4.out w3 HB3.out).mono ?_); rintro e_ w4 ⟨i4, s4, rfl, hs4, hb4⟩; have hne4 := ne_empty hs4; have HB4 := Lib.hid (HB3.out.trans (hb4.mono HB3.out.size)); clear hb4 hs4)))
                  | (go_at_call 21; go_loud (refine (awake_any w.heap.size pe pl _ (HE.out.below HB4.out) HB4.out.size).mono ?_; rintro e_ w5 ⟨rfl, hb5⟩; have HB5 := Lib.hid (HB4.out.trans (hb5.mono HB4.out.size)); clear hb5)))
                go_ret
                exact ⟨rfl, HB5.out⟩
end Go.Proofs.YtgdbeiadlgkedaaDoor
