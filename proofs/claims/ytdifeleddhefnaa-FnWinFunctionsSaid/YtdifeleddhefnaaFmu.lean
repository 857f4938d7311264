/- The text of a duration of a second or more: the contract of (time.Duration).format. -/
import Derived.Test.YtdifeleddhefnaaTxt
set_option linter.unusedVariables false
set_option linter.unusedSimpArgs false
namespace Go.Proofs.Ytdifeleddhefnaa
open Go.RowKit Go.Proofs.YtdifeleddhefnaaW.PrintWords

theorem dg_succ (n : Nat) : (dg n).length ≤ (dg (n / 10)).length + 1 := by
  by_cases h1 : n < 10
  · rw [dg_small h1]; simp
  · rw [dg_big h1]; simp
theorem dg_le7 {n : Nat} (h : n < 10000000) : (dg n).length ≤ 7 := by
  have h1 := dg_succ n
  have h2 := dg_succ (n / 10)
  have h3 := dg_succ (n / 10 / 10)
  have h4 := dg_succ (n / 10 / 10 / 10)
  have h5 := dg_le3 (n := n / 10 / 10 / 10 / 10) (by omega)
  omega
theorem tmod60 (s : Nat) : (s : Int).tmod 60 = ((s % 60 : Nat) : Int) := by rw [Int.tmod_eq_emod_of_nonneg (by omega)]; omega
theorem tdiv60 (s : Nat) : (s : Int).tdiv 60 = ((s / 60 : Nat) : Int) := by rw [Int.tdiv_eq_ediv_of_nonneg (by omega)]; omega
theorem u64w {n : Nat} (h : n ≤ 1000000) : IntKind.u64.wrap (n : Int) = (n : Int) := by
  simp only [IntKind.wrap, IntKind.bits, IntKind.signed]
  simp
  omega
theorem fr_nine (ms : Nat) : (fr 9 (ms * 1000000) false [115]).2.1 = ms / 1000 := by
  rw [fr_num]
  have e : ms * 1000000 / 10 ^ 9 = ms / 1000 := by
    rw [show (10 : Nat) ^ 9 = 1000000 * 1000 by decide, ← Nat.div_div_eq_div_mul, Nat.mul_div_cancel _ (by decide)]
  exact e
theorem dtxt_s {ms : Nat} (h : 1000 ≤ ms) (hm : ms / 1000 / 60 = 0) : dtxt ms = dg (ms / 1000 % 60) ++ fracT (ms * 1000000) := by
  unfold dtxt; rw [if_neg (by omega), if_neg (by omega)]; simp only []; rw [if_pos hm]
theorem dtxt_m {ms : Nat} (h : 1000 ≤ ms) (hm : ms / 1000 / 60 ≠ 0) (hh : ms / 1000 / 60 / 60 = 0) : dtxt ms = dg (ms / 1000 / 60 % 60) ++ 109 :: (dg (ms / 1000 % 60) ++ fracT (ms * 1000000)) := by
  unfold dtxt; rw [if_neg (by omega), if_neg (by omega)]; simp only []; rw [if_neg hm, if_pos hh]
theorem dtxt_h {ms : Nat} (h : 1000 ≤ ms) (hm : ms / 1000 / 60 ≠ 0) (hh : ms / 1000 / 60 / 60 ≠ 0) : dtxt ms = dg (ms / 1000 / 60 / 60) ++ 104 :: (dg (ms / 1000 / 60 % 60) ++ 109 :: (dg (ms / 1000 % 60) ++ fracT (ms * 1000000))) := by
  unfold dtxt; rw [if_neg (by omega), if_neg (by omega)]; simp only []; rw [if_neg hm, if_neg hh]
set_option maxRecDepth 100000 in
set_option maxHeartbeats 4000000 in
theorem format_2 (g ms : Nat) (h0 : 1000 ≤ ms) (h1 : ms ≤ 1000000000) (w : World) (h : Tl w g 32 []) :
    Calls Try.prog 94 #[.int .i64 ((ms * 1000000 : Nat) : Int), .pointer (some ⟨g, 0, none⟩)] w fun e w' => ∃ k : Nat, e = .returned (.int .i64 k) ∧ Tl w' g k (dtxt ms) ∧ Only g w w' := by
  have HN := Aside0.mk (fr_nine ms)
  have HDS := Aside0.mk (dtxt_s h0)
  have HDM := Aside0.mk (dtxt_m h0)
  have HDH := Aside0.mk (dtxt_h h0)
  have HSB := Aside0.mk (show ms / 1000 ≤ 1000000 by omega)
  obtain ⟨u, hu⟩ : ∃ u, u = ms * 1000000 := ⟨_, rfl⟩
  rw [← hu] at HN HDS HDM HDH ⊢
  obtain ⟨s, hs⟩ : ∃ s, ms / 1000 = s := ⟨_, rfl⟩
  rw [hs] at HN HDS HDM HDH HSB
  have H1 := Aside0.mk (Tl.push (n := 31) h 115)
  obtain ⟨x, hx, hf⟩ := Tl.cell h 31 (by decide)
  have HO := Aside0.mk ((Only.refl g w).set 31 (.int .u8 115))
  obtain ⟨z, hz⟩ : ∃ z : Int, z = (u : Int) := ⟨_, rfl⟩
  rw [← hz]
  have q1 : 1000000000 ≤ z := by omega
  have q2 : z ≤ 1000000000000000 := by omega
  have q3 : decide (z < 0) = false := decide_eq_false (by omega)
  have q4 : decide (z < 1000000000) = false := decide_eq_false (by omega)
  have HZ := Aside0.mk hz
  have HU := Aside0.mk (show u < 18446744073709551616 by omega)
  clear h hu h0 h1 hz hs
  go_enter Try.func94, Try.ntmps94
  go_wp2_with fail
  rw [HZ.out]
  refine (fmtFrac_any g 31 32 u 9 [115] _ HU.out (by decide) (by decide) (by decide) H1.out).mono ?_
  rintro e_ w1 ⟨k1, rfl, hT, hO⟩
  rw [HN.out]
  have HT := Aside0.mk (show Tl w1 g k1 (fracT u) from hT)
  have HO := Aside0.mk (HO.out.trans hO)
  have hk1 := HT.out.len
  have hk2 := fracT_len u
  have qk : (k1 : Int) ≤ 32 := by omega
  have HK := Aside0.mk (And.intro hk1 hk2)
  generalize fracT u = T0 at HT HK HDS HDM HDH
  have e1 := tmod60 s
  have e2 := tdiv60 s
  have HL := Aside0.mk (dg_le2 (n := s % 60) (by omega))
  have HSM := Aside0.mk (show s % 60 < 18446744073709551616 by omega)
  have HMB := Aside0.mk (show s / 60 ≤ 1000000 by have := HSB.out; omega)
  obtain ⟨r, hr⟩ : ∃ r, s % 60 = r := ⟨_, rfl⟩
  obtain ⟨m, hm⟩ : ∃ m, s / 60 = m := ⟨_, rfl⟩
  rw [hr] at e1 HL HDS HDM HDH HSM
  rw [hm] at e2 HDS HDM HDH HMB
  have qs : (0 : Int) ≤ (s : Int) := by omega
  clear hT hO hk1 hk2 q1 q2 q3 q4 hr hm hx hf H1 HN HSB
  go_wp2_with fail
  refine (fmtInt_at g k1 32 r T0 _ HSM.out HT.out (by have := HK.out; have := HL.out; omega) (by have := HK.out; omega)).mono ?_
  rintro e_ w2 ⟨n2, hn2, rfl, hT2, hO2⟩
  have HT2 := Aside0.mk hT2
  have HO := Aside0.mk (HO.out.trans hO2)
  have HN2 := Aside0.mk hn2
  clear hT2 hO2 hn2 e1
  have qw0 := u64w (n := m) (by have := HMB.out; omega)
  rcases Nat.eq_zero_or_pos m with hm0 | hm0
  · subst hm0
    have HD := Aside0.mk (HDS.out rfl)
    clear HDM HDH HDS
    go_wp2
    go_ret
    exact ⟨n2, rfl, by rw [HD.out]; exact HT2.out, HO.out⟩
  · obtain ⟨n3, rfl⟩ : ∃ n3, n2 = n3 + 1 := ⟨n2 - 1, by have := HN2.out; have := HK.out; have := HL.out; omega⟩
    have HB3 := Aside0.mk (show 15 ≤ n3 ∧ n3 < 32 by have := HN2.out; have := HK.out; have := HL.out; omega)
    obtain ⟨x, hx, hf⟩ := HT2.out.cell n3 (by have := HB3.out; omega)
    have HT3 := Aside0.mk (HT2.out.push 109)
    have HO := Aside0.mk (HO.out.set n3 (.int .u8 109))
    have q3 : ((n3 : Int) + 1 - 1) = (n3 : Int) := by omega
    have q4 : (n3 : Int) ≤ 32 := by have := HB3.out; omega
    have q5 : (n3 : Int) < 32 := by have := HB3.out; omega
    have qm : (0 : Int) < (m : Int) := by omega
    have e3 := tmod60 m
    have e4 := tdiv60 m
    have HLm := Aside0.mk (dg_le2 (n := m % 60) (by omega))
    have HSM2 := Aside0.mk (show m % 60 < 18446744073709551616 by omega)
    have HHB := Aside0.mk (show m / 60 ≤ 1000000 by have := HMB.out; omega)
    have HDM := Aside0.mk (HDM.out (by omega))
    have HDH := Aside0.mk (HDH.out (by omega))
    obtain ⟨r2, hr2⟩ : ∃ r2, m % 60 = r2 := ⟨_, rfl⟩
    obtain ⟨hh, hhh⟩ : ∃ hh, m / 60 = hh := ⟨_, rfl⟩
    rw [hr2] at e3 HLm HDM HDH HSM2
    rw [hhh] at e4 HDM HDH HHB
    clear hr2 hhh hm0 HDS HN2
    go_wp2_with fail
    refine (fmtInt_at g n3 32 r2 _ _ HSM2.out HT3.out (by have := HB3.out; have := HLm.out; omega) (by have := HB3.out; omega)).mono ?_
    rintro e_ w4 ⟨n4, hn4, rfl, hT4, hO4⟩
    have HT4 := Aside0.mk hT4
    have HO := Aside0.mk (HO.out.trans hO4)
    have HB4 := Aside0.mk (show 13 ≤ n4 ∧ n4 < 32 by have := HB3.out; have := HLm.out; omega)
    clear hT4 hO4 hn4 e3 hx hf HT3
    have qw2 := u64w (n := hh) (by have := HHB.out; omega)
    rcases Nat.eq_zero_or_pos hh with hh0 | hh0
    · subst hh0
      have HD := Aside0.mk (HDM.out rfl)
      clear HDM HDH
      go_wp2
      go_ret
      exact ⟨n4, rfl, by rw [HD.out]; exact HT4.out, HO.out⟩
    · obtain ⟨n5, rfl⟩ : ∃ n5, n4 = n5 + 1 := ⟨n4 - 1, by have := HB4.out; omega⟩
      obtain ⟨x, hx, hf⟩ := HT4.out.cell n5 (by have := HB4.out; omega)
      have HT5 := Aside0.mk (HT4.out.push 104)
      have HO := Aside0.mk (HO.out.set n5 (.int .u8 104))
      have q6 : ((n5 : Int) + 1 - 1) = (n5 : Int) := by omega
      have q7 : (n5 : Int) ≤ 32 := by have := HB4.out; omega
      have q8 : (n5 : Int) < 32 := by have := HB4.out; omega
      have qh : (0 : Int) < (hh : Int) := by omega
      have HD := Aside0.mk (HDH.out (by omega))
      have HL7 := Aside0.mk (dg_le7 (n := hh) (by have := HHB.out; omega))
      have HSM3 := Aside0.mk (show hh < 18446744073709551616 by have := HHB.out; omega)
      clear hh0 HDM HDH
      go_wp2_with fail
      refine (fmtInt_at g n5 32 hh _ _ HSM3.out HT5.out (by have := HB4.out; have := HL7.out; omega) (by have := HB4.out; omega)).mono ?_
      rintro e_ w6 ⟨n6, hn6, rfl, hT6, hO6⟩
      have HT6 := Aside0.mk hT6
      have HO := Aside0.mk (HO.out.trans hO6)
      clear hT6 hO6 hn6 hx hf HT5
      go_wp2
      go_ret
      exact ⟨n6, rfl, by rw [HD.out]; exact HT6.out, HO.out⟩
/-- The text of so many milliseconds. -/
theorem format_any (g ms : Nat) (h1 : ms ≤ 1000000000) (w : World) (h : Tl w g 32 []) :
    Calls Try.prog 94 #[.int .i64 ((ms * 1000000 : Nat) : Int), .pointer (some ⟨g, 0, none⟩)] w fun e w' => ∃ k : Nat, e = .returned (.int .i64 k) ∧ Tl w' g k (dtxt ms) ∧ Only g w w' := by
  by_cases h0 : 1000 ≤ ms
  · exact format_2 g ms h0 h1 w h
  · by_cases hz : ms = 0
    · subst hz
      exact format_0 g w h
    · have e : dtxt ms = dg ms ++ [109, 115] := by unfold dtxt; rw [if_neg hz, if_pos (by omega)]
      rw [e]
      exact format_1 g ms (by omega) (by omega) w h
end Go.Proofs.Ytdifeleddhefnaa
