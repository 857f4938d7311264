/- The law of a bag's state. -/
import Derived.Test.YtoigekmdicepnaaSm
import Derived.Test.YtoigekmdicepnaaSp
set_option linter.unusedVariables false
set_option linter.unusedSimpArgs false
namespace Go.Proofs.Ytoigekmdicepnaa
open Go.RowKit Go.Proofs.YtoigekmdicepnaaW.PrintWords Go.Proofs.YtoigekmdicepnaaW.PrintLast Go.Proofs.YtoigekmdicepnaaW.PrintMore
open PFnMapState (S26 k26 S36 k36 k26_open k36_mkM k36_open z26 z36)

set_option maxRecDepth 100000 in
set_option maxHeartbeats 8000000 in
theorem bagLaw_walk (Av : Option Addr) (cv : Nat) (vals : List Int) (A0 : Option Addr) (c0 : Nat) (l : List S26) (w : World) (hV : (Kd.int .i64).C w Av vals.length vals) (hC : Kd.C k26 w A0 l.length l) (hc : l.length ≤ c0) :
    Calls Try.prog 6 #[.slice Av vals.length cv, .slice A0 l.length c0] w fun e w' => e = .returned (.bool true) ∧ Below w.heap.size w w' := by
  have HV := Aside0.mk hV
  have HC := Aside0.mk hC
  have HCC := Aside0.mk hc
  clear hV hC hc
  by_cases hvm : (vals.length : Int) > 2147483647
  · have t0 : decide ((vals.length : Int) > 2147483647) = true := by simpa using hvm
    go_enter Try.func6, Try.ntmps6
    go_wp2
    go_ret
    exact ⟨rfl, Below.refl _ _⟩
  have t0 : decide ((vals.length : Int) > 2147483647) = false := by simpa using hvm
  obtain ⟨kf, r, hf, hfl⟩ := fits7_some l
  have HF := Aside0.mk hf
  clear hf
  cases r
  · clear hfl
    go_enter Try.func6, Try.ntmps6
    go_wp2_with (go_at_call 11; refine (PFnMapState.laws_zzFits7.calls kf A0 c0 l false _ HC.out HCC.out HF.out).mono ?_; rintro e_ w1 ⟨rfl, hb⟩; have HB1 := Aside0.mk hb; clear hb)
    go_ret
    exact ⟨rfl, HB1.out⟩
  have hll := hfl rfl
  obtain ⟨k1, r1, hs1, hs1t⟩ := areSteps_some l [0, 1, 2] hll (by decide)
  have HS1 := Aside0.mk hs1
  clear hs1 hfl hll
  cases r1
  · clear hs1t
    go_enter Try.func6, Try.ntmps6
    go_wp2_with (first
      | (go_at_call 11; refine (PFnMapState.laws_zzFits7.calls kf A0 c0 l true _ HC.out HCC.out HF.out).mono ?_; rintro e_ w1 ⟨rfl, hb⟩; have HB1 := Aside0.mk hb; clear hb)
      | (go_at_call 12; refine (PFnMapState.laws_areSteps.calls k1 A0 c0 l _ 3 [0, 1, 2] false _ ?sa HCC.out ?sb (by decide) HS1.out).mono ?_; (case sa => exact Kd.C_below HC.out (below_then HB1.out HB1.out.size (below_alloc (Below.refl _ _) _))); (case sb => exact C_int_lit (heap_alloc_new _ _) rfl (by decide)); rintro e_ w2 ⟨rfl, hb⟩; have HB2 := Aside0.mk (below_then (HB1.out.alloc HB1.out.size (.cells #[.int .i64 0, .int .i64 1, .int .i64 2] 2)) (HB1.out.alloc HB1.out.size _).size hb); clear hb)
      | (go_at_call 13; refine (stateAwake_any _).mono ?_; rintro e_ w9 ⟨rfl, hb9⟩))
    go_ret
    exact ⟨rfl, below_then HB2.out HB2.out.size hb9⟩
  have HST := Aside0.mk (hs1t rfl)
  clear hs1t
  by_cases hv20 : (vals.length : Int) > 20
  · have t1 : decide ((vals.length : Int) > 20) = true := by simpa using hv20
    go_enter Try.func6, Try.ntmps6
    go_wp2_with (first
      | (go_at_call 11; refine (PFnMapState.laws_zzFits7.calls kf A0 c0 l true _ HC.out HCC.out HF.out).mono ?_; rintro e_ w1 ⟨rfl, hb⟩; have HB1 := Aside0.mk hb; clear hb)
      | (go_at_call 12; refine (PFnMapState.laws_areSteps.calls k1 A0 c0 l _ 3 [0, 1, 2] true _ ?sa HCC.out ?sb (by decide) HS1.out).mono ?_; (case sa => exact Kd.C_below HC.out (below_then HB1.out HB1.out.size (below_alloc (Below.refl _ _) _))); (case sb => exact C_int_lit (heap_alloc_new _ _) rfl (by decide)); rintro e_ w2 ⟨rfl, hb⟩; have HB2 := Aside0.mk (below_then (HB1.out.alloc HB1.out.size (.cells #[.int .i64 0, .int .i64 1, .int .i64 2] 2)) (HB1.out.alloc HB1.out.size _).size hb); clear hb)
      | (go_at_call 13; refine (stateAwake_any _).mono ?_; rintro e_ w9 ⟨rfl, hb9⟩))
    go_ret
    exact ⟨rfl, below_then HB2.out HB2.out.size hb9⟩
  have t1 : decide ((vals.length : Int) > 20) = false := by simpa using hv20
  have HOP := Aside0.mk (fun j hj => okStep_op (HST.out.2 j hj))
  have HL20 := Aside0.mk (show l.length ≤ 1000 by have := HST.out.1; omega)
  have HVL := Aside0.mk (show vals.length ≤ 1000 by omega)
  have HVL8 := Aside0.mk (show (0 + vals.length) * 8 ≤ 140737488355328 by omega)
  go_enter Try.func6, Try.ntmps6
  go_wp2_with (first
    | (go_at_call 11; refine (PFnMapState.laws_zzFits7.calls kf A0 c0 l true _ HC.out HCC.out HF.out).mono ?_; rintro e_ w1 ⟨rfl, hb⟩; have HB1 := Aside0.mk hb; clear hb)
    | (go_at_call 12; refine (PFnMapState.laws_areSteps.calls k1 A0 c0 l _ 3 [0, 1, 2] true _ ?sa HCC.out ?sb (by decide) HS1.out).mono ?_; (case sa => exact Kd.C_below HC.out (below_then HB1.out HB1.out.size (below_alloc (Below.refl _ _) _))); (case sb => exact C_int_lit (heap_alloc_new _ _) rfl (by decide)); rintro e_ w2 ⟨rfl, hb⟩; have HB2 := Aside0.mk (below_then (HB1.out.alloc HB1.out.size (.cells #[.int .i64 0, .int .i64 1, .int .i64 2] 2)) (HB1.out.alloc HB1.out.size _).size hb); clear hb)
    | (go_at_call 24; refine (bagRun_any Av cv vals A0 c0 l _ ?sc ?sd HOP.out HL20.out HVL.out).mono ?_; (case sc => exact Kd.C_below HV.out HB2.out); (case sd => exact Kd.C_below HC.out HB2.out); rintro e_ w4 ⟨v4, rfl, hR4, hb⟩; obtain ⟨A4, c4, e4⟩ := Kd.R_slice hR4; subst e4; have hC4 := (Kd.R_reads' hR4).2.2; have hc4 := (Kd.R_reads' hR4).2.1; have HAV := Aside0.mk (AV_start hC4 hc4); have HB4 := Aside0.mk (below_then HB2.out HB2.out.size hb); have HV5 := Aside0.mk (Kd.C_below (Kd.C_below HV.out HB2.out) hb); clear hC4 hc4 hb hR4)
    | ((with_reducible refine gate_builtin (b := .append) (xs := #[.tmp 33, .tmp 34]) rfl ?_); at_builtin; refine R_append_ints (w0 := w4) w4.heap.size rfl (.tmp 33) (.tmp 34) 33 rfl Try.underlying33 info2 _ [] vals Av vals.length cv ?aX ?aY (R_int0' _ _ _ ?aS trivial _ (World.size_alloc _ _).symm) ?aC ?aB ?aS2 HVL8.out ?_; (case aX => first | (go_simp; done) | (go_simp; rfl)); (case aY => first | (go_simp; done) | (go_simp; rfl)); (case aS => rw [World.size_alloc]; omega); (case aC => exact Kd.C_below HV5.out (below_alloc (below_alloc (Below.refl _ _) _) _)); (case aB => exact below_alloc (below_alloc (Below.refl _ _) _) _); (case aS2 => rw [World.size_alloc, World.size_alloc]; omega); intro A6 c6 w6 hR6 hB6 hg6; rw [List.nil_append] at hR6 ⊢; have hR0 := R_int0' (w4.alloc (.cells #[.slice A4 (ansB l vals).length c4, .bool true] 32)) w4.heap.size (fun _ => True) (by rw [World.size_alloc]; omega) trivial _ (World.size_alloc _ _).symm; have HAV := Aside0.mk ((HAV.out.below (below_alloc (Below.refl _ _) (.cells #[] 2))).grown hR0 (by decide) hB6 hg6); have HR := Aside0.mk hR6; have HB6 := Aside0.mk (below_then HB4.out HB4.out.size hB6); clear hR6 hB6 hg6 hR0))
  go_loopg [6, 38] l.length (fun kq v6 v38 w' => ∃ (k : Nat) (cur : List Int), k ≤ l.length ∧ Aside0 (kq = l.length - k) ∧ v38 = .int .i64 k ∧ Aside0 ((Kd.int .i64).R 2 w' w4.heap.size (fun _ => True) v6 cur) ∧ Aside0 (cur.length ≤ vals.length + k) ∧ Aside0 (AV w4 w' w4.heap.size (ansB (l.drop k) cur)))
  case atStart => exact ⟨0, vals, Nat.zero_le _, ⟨by simp⟩, rfl, HR, ⟨by omega⟩, HAV⟩
  case round =>
    clear HAV HB6 HR
    obtain ⟨k, cur, hk, hq, rfl, HR, HLC, HAV⟩ := hrel
    have q1 : (l.length : Int) ≤ 1000 := by have := HL20.out; omega
    have HCM := Aside0.mk (show cur.length ≤ 1000000 by have := HL20.out; have := HVL.out; have := HLC.out; omega)
    have q2 : (cur.length : Int) ≤ 1000000 := by have := HCM.out; omega
    have HCS := Aside0.mk (show (cur.length + 1) * 8 ≤ 140737488355328 by have := HCM.out; omega)
    have HB := Aside0.mk (below_then HB4.out HB4.out.size HAV.out.w1)
    by_cases hlt : k < l.length
    · obtain ⟨ad, ea, x0, x1, x2, x3, x4⟩ := atP HC.out k hlt
      subst ea
      replace x0 := (HB.out.cell (World.block_lt_of_cell? w _ x0)).trans x0
      replace x1 := (HB.out.cell (World.block_lt_of_cell? w _ x1)).trans x1
      replace x2 := (HB.out.cell (World.block_lt_of_cell? w _ x2)).trans x2
      replace x3 := (HB.out.cell (World.block_lt_of_cell? w _ x3)).trans x3
      replace x4 := (HB.out.cell (World.block_lt_of_cell? w _ x4)).trans x4
      have HO := Aside0.mk (HOP.out k hlt)
      have HD := Aside0.mk (drop_rdP l k hlt)
      have HXL := Aside0.mk (show (ansB (l.drop (k + 1)) cur).length ≤ 1000000 by have h := ansB_len (l.drop (k + 1)) cur; have := HL20.out; rw [List.length_drop] at h; omega)
      generalize hx : rdP l k = x at x0 x1 x2 x3 x4 HO HD
      clear hx
      obtain ⟨s0, s1, s2, s3, s4⟩ := x
      simp only at x0 x1 x2 x3 x4
      have NX := Aside0.mk (heap_alloc_new wr (.cells #[.int .i64 s0, .string s1, .int .i64 s2, .int .i64 s3, .int .i64 s4] 26))
      have HAV := Aside0.mk (HAV.out.below (below_alloc (Below.refl _ _) (.cells #[.int .i64 s0, .string s1, .int .i64 s2, .int .i64 s3, .int .i64 s4] 26)))
      have HR := Aside0.mk (Kd.R_below HR.out (below_alloc (Below.refl _ _) (.cells #[.int .i64 s0, .string s1, .int .i64 s2, .int .i64 s3, .int .i64 s4] 26)))
      clear HB
      rcases HO.out with e0 | e0 | e0
      · have t0 : (s0 == 0) = true := beq_iff_eq.2 e0
        have HA2 := Aside0.mk (show AV w4 (wr.alloc (.cells #[.int .i64 s0, .string s1, .int .i64 s2, .int .i64 s3, .int .i64 s4] 26)) w4.heap.size (ansB (l.drop (k + 1)) (cur ++ [s2])) by have h := HAV.out; rw [HD.out] at h; simp only [ansB] at h; rw [if_pos (by exact e0)] at h; exact h)
        clear e0 HAV
        go_wp2_with ((with_reducible refine gate_builtin (b := .append) (xs := #[.tmp 62, .tmp 65]) rfl ?_); at_builtin; refine R_append_s (Kd.int .i64) (w0 := w4) (W := wr.alloc (.cells #[.int .i64 s0, .string s1, .int .i64 s2, .int .i64 s3, .int .i64 s4] 26)) w4.heap.size rfl (.tmp 62) (.tmp 65) 33 2 _ 8 rfl Try.underlying33 info2 rfl (by decide) (by decide) _ _ s2 [.int .i64 s2] (fun _ => True) (fun _ => False) rfl ?aX rfl (fun _ hk => hk.elim) (fun _ _ => trivial) HR.out HA2.out.w1 HA2.out.w1.size HCS.out ?_; (case aX => first | (go_simp; done) | (go_simp; rfl)); intro A9 c9 w5 hR1 hB1 hg1; have HA3 := Aside0.mk (HA2.out.grown HR.out (by decide) hB1 hg1); have HR3 := Aside0.mk hR1; clear hR1 hB1 hg1)
        go_roundg (l.length - (k + 1))
        case measure => have := hq.out; omega
        case rel => exact ⟨k + 1, _, by omega, ⟨rfl⟩, by go_num, HR3, ⟨by have := HLC.out; rw [List.length_append, List.length_singleton]; omega⟩, HA3⟩
      · have t0 : (s0 == 0) = false := beq_eq_false_iff_ne.2 (by simp only at e0; omega)
        have t1 : (s0 == 1) = true := beq_iff_eq.2 e0
        have HA2 := Aside0.mk (show AV w4 (wr.alloc (.cells #[.int .i64 s0, .string s1, .int .i64 s2, .int .i64 s3, .int .i64 s4] 26)) w4.heap.size (ansB (l.drop (k + 1)) []) by have h := HAV.out; rw [HD.out] at h; simp only [ansB] at h; rw [if_neg (by simp only at e0 ⊢; omega), if_pos (by exact e0)] at h; exact h)
        clear e0 HAV
        go_wp2
        go_roundg (l.length - (k + 1))
        case measure => have := hq.out; omega
        case rel => exact ⟨k + 1, [], by omega, ⟨rfl⟩, by go_num, ⟨Kd.R_nil _ _ _ _ _⟩, ⟨Nat.zero_le _⟩, HA2⟩
      · have t0 : (s0 == 0) = false := beq_eq_false_iff_ne.2 (by simp only at e0; omega)
        have t1 : (s0 == 1) = false := beq_eq_false_iff_ne.2 (by simp only at e0; omega)
        have HA2 := Aside0.mk (show AV w4 (wr.alloc (.cells #[.int .i64 s0, .string s1, .int .i64 s2, .int .i64 s3, .int .i64 s4] 26)) w4.heap.size (⟨decide (0 < cur.length), cur, [], []⟩ :: ansB (l.drop (k + 1)) cur) by have h := HAV.out; rw [HD.out] at h; simp only [ansB] at h; rw [if_neg (by simp only at e0 ⊢; omega), if_neg (by simp only at e0 ⊢; omega)] at h; exact h)
        clear e0 HAV
        obtain ⟨A7, c7, e7⟩ := Kd.R_slice HR.out
        subst e7
        by_cases hz : 0 < cur.length
        · have q3 : (0 : Int) < cur.length := by omega
          rw [decide_eq_true hz] at HA2
          clear hz
          go_wp2_with (first
              | (go_at_call 15; refine (next_g w4 _ _ _ _ HA2.out HXL.out).mono ?_; rintro e_ w5 ⟨A1, c1, A2, c2, A3, c3, rfl, ⟨q1, g1⟩, _, _, hav, hgb⟩; have HA5 := Aside0.mk hav; have HR5 := Aside0.mk (R_av HR.out HA2.out (by decide) hgb); clear hgb; have G1 := Aside0.mk g1; have Q1 := Aside0.mk q1; clear q1 g1 hav)
              | (go_at_call 17; refine (same_eq cur A1 c1 _ c7 _ ?sa Q1.out ?sb ?sc (show cur.length ≤ 2147483647 by have := HCM.out; omega)).mono ?_; (case sa => exact Kd.C_below G1.out ((HA5.out.below (below_alloc (Below.refl w5.heap.size w5) _)).w1)); (case sb => exact Kd.C_below (Kd.R_reads' HR5.out).2.2 (below_alloc (Below.refl w5.heap.size w5) _)); (case sc => exact (Kd.R_reads' HR5.out).2.1); rintro e_ w7 ⟨rfl, hb⟩; have HA7 := Aside0.mk ((HA5.out.below (below_alloc (Below.refl w5.heap.size w5) _)).below hb); have HR7 := Aside0.mk (Kd.R_below (Kd.R_below HR5.out (below_alloc (Below.refl w5.heap.size w5) _)) hb); clear hb)
              | (go_at_call 16; refine (check_g w4 _ _ _ HA7.out).mono ?_; rintro e_ w6 ⟨rfl, hav, hgb⟩; have HA6 := Aside0.mk hav; have HR6 := Aside0.mk (R_av HR7.out HA7.out (by decide) hgb); clear hav hgb))
          go_roundg (l.length - (k + 1))
          case measure => have := hq.out; omega
          case rel => exact ⟨k + 1, cur, by omega, ⟨rfl⟩, by go_num, HR6, ⟨by have := HLC.out; omega⟩, HA6⟩
        · have hz' : cur = [] := List.eq_nil_of_length_eq_zero (by omega)
          subst hz'
          rw [decide_eq_false hz] at HA2
          clear hz q2
          go_wp2_with (first
              | (go_at_call 15; refine (next_g w4 _ _ _ _ HA2.out HXL.out).mono ?_; rintro e_ w5 ⟨A1, c1, A2, c2, A3, c3, rfl, ⟨q1, g1⟩, _, _, hav, hgb⟩; have HA5 := Aside0.mk hav; have HR5 := Aside0.mk (R_av HR.out HA2.out (by decide) hgb); clear hgb; have G1 := Aside0.mk g1; have Q1 := Aside0.mk q1; clear q1 g1 hav)
              | (go_at_call 17; refine (same_eq ([] : List Int) A1 c1 _ c7 _ ?sa Q1.out ?sb ?sc (show ([] : List Int).length ≤ 2147483647 by have := HCM.out; omega)).mono ?_; (case sa => exact Kd.C_below G1.out ((HA5.out.below (below_alloc (Below.refl w5.heap.size w5) _)).w1)); (case sb => exact Kd.C_below (Kd.R_reads' HR5.out).2.2 (below_alloc (Below.refl w5.heap.size w5) _)); (case sc => exact (Kd.R_reads' HR5.out).2.1); rintro e_ w7 ⟨rfl, hb⟩; have HA7 := Aside0.mk ((HA5.out.below (below_alloc (Below.refl w5.heap.size w5) _)).below hb); have HR7 := Aside0.mk (Kd.R_below (Kd.R_below HR5.out (below_alloc (Below.refl w5.heap.size w5) _)) hb); clear hb)
              | (go_at_call 16; refine (check_g w4 _ _ _ HA7.out).mono ?_; rintro e_ w6 ⟨rfl, hav, hgb⟩; have HA6 := Aside0.mk hav; have HR6 := Aside0.mk (R_av HR7.out HA7.out (by decide) hgb); clear hav hgb))
          go_roundg (l.length - (k + 1))
          case measure => have := hq.out; omega
          case rel => exact ⟨k + 1, ([] : List Int), by omega, ⟨rfl⟩, by go_num, HR6, ⟨by have := HLC.out; omega⟩, HA6⟩
    · have hkl : k = l.length := by omega
      subst hkl
      rw [List.drop_length] at HAV
      go_wp2_with (first
        | (go_at_call 18; refine (end_any w4 _ _ HAV.out).mono ?_; rintro e_ w8 ⟨rfl, rfl⟩)
        | (go_at_call 13; refine (stateAwake_any _).mono ?_; rintro e_ w9 ⟨rfl, hb9⟩))
      go_ret
      exact ⟨rfl, below_then HB.out HB.out.size hb9⟩
end Go.Proofs.Ytoigekmdicepnaa
