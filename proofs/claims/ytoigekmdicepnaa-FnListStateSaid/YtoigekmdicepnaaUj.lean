/- The law of an ordered list. -/
import Derived.Test.YtoigekmdicepnaaUi
import Derived.Test.YtoigekmdicepnaaUk
set_option linter.unusedVariables false
set_option linter.unusedSimpArgs false
namespace Go.Proofs.Ytoigekmdicepnaa
open Go.RowKit Go.Proofs.YtoigekmdicepnaaW.PrintWords Go.Proofs.YtoigekmdicepnaaW.PrintLast Go.Proofs.YtoigekmdicepnaaW.PrintMore
open PFnMapState (S26 k26 S36 k36 k26_open k36_mkM k36_open z26 z36)
open Go.Proofs.Ytoigekmdicepnaa.Ord (E2 ins isort Tx inR tx1 replay Asc Down addF ref1)
theorem blk_aq {w w1 : World} {base a g t : Nat} {cs : Array Value} {xs : List S36} (h : w.heap[g]? = some (.cells cs t (0, 0))) (ha : AQ w base a xs) (ht : t ≠ 32) (hg : w.grownBy w1 (some a)) : w1.heap[g]? = some (.cells cs t (0, 0)) := by
  obtain ⟨c2, h2⟩ := ha.ha
  refine blk_grown h hg (fun e => ?_)
  injection e with e
  subst e
  rw [h] at h2
  injection h2 with h2; injection h2 with _ h2
  exact ht h2
theorem LR.aq {w w1 : World} {base b2 a : Nat} {xs : List S36} {A1 A2 : Option Addr} {c1 c2 : Nat} {l : List E2} (h : LR w base A1 c1 A2 c2 l) (ha : AQ w b2 a xs) (hg : w.grownBy w1 (some a)) : LR w1 base A1 c1 A2 c2 l := ⟨R_aq h.a ha (by decide) hg, R_aq h.v ha (by decide) hg⟩
theorem grown_bel {w w1 w2 : World} {b a : Nat} (hB : Below b w w1) (hg : w1.grownBy w2 (some a)) (h : b ≤ a) (hs : b ≤ w1.heap.size) : Below b w w2 :=
  ⟨hg.os.trans hB.os, hg.tape.trans hB.tape, hg.output.trans hB.output, Nat.le_trans hB.size hg.size, fun i hi => (hg.block i (by omega) (fun e => by injection e with e; omega)).trans (hB.block i hi)⟩
theorem next_l (w : World) (base a : Nat) (p : List E2) (xs : List S36) (h : AQ w base a (rdL p :: xs)) (hl : xs.length ≤ 1000000) :
    Calls Try.prog 15 #[.pointer (some ⟨a, 0, none⟩)] w fun e w' => ∃ A1 c1 A2 c2 A3 c3, e = .returned (.agg #[.bool (decide (0 < p.length)), .slice A1 p.length c1, .slice A2 0 c2, .slice A3 p.length c3]) ∧ LR w' base A3 c3 A1 c1 p ∧ AQ w' base a xs ∧ w.grownBy w' (some a) :=
  (next_q w base a (rdL p) xs h hl).mono fun e w' ⟨A1, c1, A2, c2, A3, c3, he, r1, r2, r3, hq, hg⟩ => by
    have e1 : (rdL p).f1.length = p.length := k2_len p
    have e3 : (rdL p).f3.length = p.length := k1_len p
    rw [e1] at r1 he
    rw [e3] at r3 he
    exact ⟨A1, c1, A2, c2, A3, c3, he, ⟨r3, r1⟩, hq, hg⟩
theorem same_k1 (p : List E2) (A0 : Option Addr) (c0 : Nat) (A1 : Option Addr) (c1 : Nat) (w : World) (b b2 : Nat) (h0 : (Kd.int .i64).R 2 w b (fun _ => True) (.slice A0 p.length c0) (k1 p)) (h1 : (Kd.int .i64).R 2 w b2 (fun _ => True) (.slice A1 p.length c1) (k1 p)) (hl : p.length ≤ 2147483647) :
    Calls Try.prog 17 #[.slice A0 p.length c0, .slice A1 p.length c1] w fun e w' => e = .returned (.bool true) ∧ Below w.heap.size w w' := by
  have a0 := Kd.R_reads' h0
  have a1 := Kd.R_reads' h1
  have h := same_eq (k1 p) A0 c0 A1 c1 w a0.2.2 (by rw [k1_len]; exact a0.2.1) a1.2.2 (by rw [k1_len]; exact a1.2.1) (by rw [k1_len]; exact hl)
  rw [k1_len] at h; exact h
theorem same_k2 (p : List E2) (A0 : Option Addr) (c0 : Nat) (A1 : Option Addr) (c1 : Nat) (w : World) (b b2 : Nat) (h0 : (Kd.int .i64).R 2 w b (fun _ => True) (.slice A0 p.length c0) (k2 p)) (h1 : (Kd.int .i64).R 2 w b2 (fun _ => True) (.slice A1 p.length c1) (k2 p)) (hl : p.length ≤ 2147483647) :
    Calls Try.prog 17 #[.slice A0 p.length c0, .slice A1 p.length c1] w fun e w' => e = .returned (.bool true) ∧ Below w.heap.size w w' := by
  have a0 := Kd.R_reads' h0
  have a1 := Kd.R_reads' h1
  have h := same_eq (k2 p) A0 c0 A1 c1 w a0.2.2 (by rw [k2_len]; exact a0.2.1) a1.2.2 (by rw [k2_len]; exact a1.2.1) (by rw [k2_len]; exact hl)
  rw [k2_len] at h; exact h
set_option maxRecDepth 100000 in
set_option maxHeartbeats 8000000 in
theorem listLaw_walk (Ae : Option Addr) (ce : Nat) (es : List E2) (A0 : Option Addr) (c0 : Nat) (l : List S26) (w : World) (hV : kOl.C w Ae es.length es) (hC : Kd.C k26 w A0 l.length l) (hc : l.length ≤ c0) :
    Calls Try.prog 7 #[.slice Ae es.length ce, .slice A0 l.length c0] w fun e w' => e = .returned (.bool true) ∧ Below w.heap.size w w' := by
  have HV := Aside0.mk hV
  have HC := Aside0.mk hC
  have HCC := Aside0.mk hc
  clear hV hC hc
  by_cases hvm : (es.length : Int) > 2147483647
  · have t0 : decide ((es.length : Int) > 2147483647) = true := by simpa using hvm
    go_enter Try.func7, Try.ntmps7
    go_wp2
    go_ret
    exact ⟨rfl, Below.refl _ _⟩
  have t0 : decide ((es.length : Int) > 2147483647) = false := by simpa using hvm
  have HVM := Aside0.mk (show es.length ≤ 2147483647 by omega)
  obtain ⟨kf, r, hf, hfl⟩ := fits7_some l
  have HF := Aside0.mk hf
  clear hf hvm
  cases r
  · clear hfl
    go_enter Try.func7, Try.ntmps7
    go_wp2_with (go_at_call 11; refine (PFnMapState.laws_zzFits7.calls kf A0 c0 l false _ HC.out HCC.out HF.out).mono ?_; rintro e_ w1 ⟨rfl, hb⟩; have HB1 := Aside0.mk hb; clear hb)
    go_ret
    exact ⟨rfl, HB1.out⟩
  have hll := hfl rfl
  obtain ⟨k1_, r1, hs1, hs1t⟩ := areSteps_some l [0, 1, 2, 5, 6] hll (by decide)
  have HS1 := Aside0.mk hs1
  have HST := Aside0.mk hs1t
  clear hs1 hfl hll hs1t
  go_enter Try.func7, Try.ntmps7
  go_wp2_with (go_at_call 11; refine (PFnMapState.laws_zzFits7.calls kf A0 c0 l true _ HC.out HCC.out HF.out).mono ?_; rintro e_ w1 ⟨rfl, hb⟩; have HB1 := Aside0.mk hb; clear hb)
  clear t0
  have HB5 := Aside0.mk (HB1.out.alloc HB1.out.size (.cells #[.slice none 0 0, .slice none 0 0] 56))
  have B5 := Aside0.mk (heap_alloc_new w1 (.cells #[.slice none 0 0, .slice none 0 0] 56))
  obtain ⟨n5, hn5⟩ : ∃ n5, n5 = w1.heap.size := ⟨_, rfl⟩
  rw [← hn5] at B5 ⊢
  have HN5 := Aside0.mk (show w.heap.size ≤ n5 by rw [hn5]; exact HB1.out.size)
  clear hn5
  go_loopg [23] es.length (fun kq v23 w' => ∃ (i : Nat) (A1 : Option Addr) (c1 : Nat) (A2 : Option Addr) (c2 : Nat), i ≤ es.length ∧ Aside0 (kq = es.length - i) ∧ v23 = .int .i64 i ∧ Aside0 (w'.heap[n5]? = some (.cells #[.slice A1 (isort (es.take i)).length c1, .slice A2 (isort (es.take i)).length c2] 56 (0, 0))) ∧ Aside0 (LR w' w.heap.size A1 c1 A2 c2 (isort (es.take i))) ∧ Aside0 (Below w.heap.size w w') ∧ Aside0 (KB (isort (es.take i))))
  case atStart => exact ⟨0, none, 0, none, 0, Nat.zero_le _, ⟨by simp⟩, rfl, B5, ⟨LR.nil _ _⟩, HB5, ⟨fun x hx => by cases hx⟩⟩
  case round =>
    clear B5 HB5
    obtain ⟨i, A1, c1, A2, c2, hi_, hq, rfl, B5, HLR, HB, HK⟩ := hrel
    have q1 : (es.length : Int) ≤ 2147483647 := by have := HVM.out; omega
    by_cases hlt : i < es.length
    · obtain ⟨ad, ea, x0, x1⟩ := atO HV.out i hlt
      subst ea
      replace x0 := (HB.out.cell (World.block_lt_of_cell? w _ x0)).trans x0
      replace x1 := (HB.out.cell (World.block_lt_of_cell? w _ x1)).trans x1
      have HIS := Aside0.mk (Ord.isort_take (rdE_get es i hlt))
      have HPL := Aside0.mk (show (isort (es.take i)).length ≤ 2147483647 by rw [Ord.isort_len, List.length_take]; have := HVM.out; omega)
      generalize rdE es i = x at x0 x1 HIS
      obtain ⟨ek, ev⟩ := x
      simp only at x0 x1
      generalize isort (es.take i) = P at B5 HLR HK HIS HPL
      obtain ⟨k2_, r2, hs2, hs2t⟩ := areSteps_some [⟨0, ByteArray.empty, ev, ek, ek⟩] [0] (by show 1 ≤ 2147483647; decide) (by decide)
      have HS2 := Aside0.mk hs2
      clear hs2
      have HL1 := Aside0.mk (show Kd.C k26 (((wr.alloc (.cells #[.int .i64 ek, .int .i64 ev] 58)).alloc (.cells #[.int .i64 0, .string ByteArray.empty, .int .i64 ev, .int .i64 ek, .int .i64 ek] 26)).alloc (.cells #[.int .i64 0] 2)) (some ⟨wr.heap.size + 1, 0, none⟩) [(⟨0, ByteArray.empty, ev, ek, ek⟩ : S26)].length [⟨0, ByteArray.empty, ev, ek, ek⟩] by
        have h := Ck26_lit (xs := [⟨0, ByteArray.empty, ev, ek, ek⟩]) (heap_alloc_new (wr.alloc (.cells #[.int .i64 ek, .int .i64 ev] 58)) (.cells #[.int .i64 0, .string ByteArray.empty, .int .i64 ev, .int .i64 ek, .int .i64 ek] 26)) rfl (by show 1 ≤ 1000; decide)
        rw [World.size_alloc] at h
        exact Kd.C_below h (below_alloc (Below.refl _ _) _))
      have HL2 := Aside0.mk (show (Kd.int .i64).C (((wr.alloc (.cells #[.int .i64 ek, .int .i64 ev] 58)).alloc (.cells #[.int .i64 0, .string ByteArray.empty, .int .i64 ev, .int .i64 ek, .int .i64 ek] 26)).alloc (.cells #[.int .i64 0] 2)) (some ⟨wr.heap.size + 1 + 1, 0, none⟩) [(0 : Int)].length [0] by
        have h := C_int_lit (xs := [0]) (heap_alloc_new ((wr.alloc (.cells #[.int .i64 ek, .int .i64 ev] 58)).alloc (.cells #[.int .i64 0, .string ByteArray.empty, .int .i64 ev, .int .i64 ek, .int .i64 ek] 26)) (.cells #[.int .i64 0] 2)) rfl (by decide)
        rw [World.size_alloc, World.size_alloc] at h
        exact h)
      have HBX := Aside0.mk (below_alloc (below_alloc (below_alloc (Below.refl wr.heap.size wr) (.cells #[.int .i64 ek, .int .i64 ev] 58)) (.cells #[.int .i64 0, .string ByteArray.empty, .int .i64 ev, .int .i64 ek, .int .i64 ek] 26)) (.cells #[.int .i64 0] 2))
      have NX0 := Aside0.mk (blk_alloc (blk_alloc (heap_alloc_new wr (.cells #[.int .i64 ek, .int .i64 ev] 58)) (.cells #[.int .i64 0, .string ByteArray.empty, .int .i64 ev, .int .i64 ek, .int .i64 ek] 26)) (.cells #[.int .i64 0] 2))
      cases r2
      · go_wp2_with (first
          | (go_at_call 12; refine (PFnMapState.laws_areSteps.calls k2_ _ 1 [⟨0, ByteArray.empty, ev, ek, ek⟩] _ 1 [0] false _ HL1.out (by show 1 ≤ 1; decide) HL2.out (by decide) HS2.out).mono ?_; rintro e_ w2 ⟨rfl, hb⟩; have HB2 := Aside0.mk (below_then HB.out HB.out.size (below_then HBX.out HBX.out.size hb)); clear hb)
          | (go_at_call 13; refine (stateAwake_any _).mono ?_; rintro e_ w9 ⟨rfl, hb9⟩))
        go_ret
        exact ⟨rfl, below_then HB2.out HB2.out.size hb9⟩
      · have HOK := Aside0.mk ((hs2t rfl).2 0 (by show 0 < 1; decide)).2.2.2.1
        clear hs2t
        go_wp2_with (first
          | (go_at_call 12; refine (PFnMapState.laws_areSteps.calls k2_ _ 1 [⟨0, ByteArray.empty, ev, ek, ek⟩] _ 1 [0] true _ HL1.out (by show 1 ≤ 1; decide) HL2.out (by decide) HS2.out).mono ?_; rintro e_ w2 ⟨rfl, hb⟩; have hb2 := below_then HBX.out HBX.out.size hb; have HB := Aside0.mk (below_then HB.out HB.out.size hb2); have HLR := Aside0.mk (HLR.out.below hb2); have B5 := Aside0.mk (blk_below B5.out hb2); have NX := blk_below NX0.out hb; have z0 := (blk_cell NX 0).trans (rfl : _ = some (Value.int .i64 ek)); have z1 := (blk_cell NX 1).trans (rfl : _ = some (Value.int .i64 ev)); have y0 := (blk_cell B5.out 0).trans (rfl : _ = some (Value.slice A1 P.length c1)); have y1 := (blk_cell B5.out 1).trans (rfl : _ = some (Value.slice A2 P.length c2)); clear hb hb2 NX)
          | (go_at_call 25; refine (stateAdd_any A1 c1 A2 c2 P ek ev _ HLR.out.ls HPL.out).mono ?_; rintro e_ w3 ⟨B1, d1, B2, d2, rfl, hLR, hb⟩; have HLR := Aside0.mk (hLR.lower HB.out.size); have HB := Aside0.mk (below_then HB.out HB.out.size hb); have B5 := Aside0.mk (blk_below B5.out hb); clear y0 y1 z0 z1 hLR hb; have y0 := (blk_cell B5.out 0).trans (rfl : _ = some (Value.slice A1 P.length c1)); have b1_ := blk_set B5.out 0 (.slice B1 (ins ek ev P).length d1); have y1 := (blk_cell b1_ 1).trans (rfl : _ = some (Value.slice A2 P.length c2)); have f0 := blk_frozen B5.out 0; have f1 := blk_frozen b1_ 1; have HLR := Aside0.mk ((HLR.out.set B5.out (by decide) 0 (.slice B1 (ins ek ev P).length d1)).set b1_ (by decide) 1 (.slice B2 (ins ek ev P).length d2)); have HB := Aside0.mk ((HB.out.setCell (p := ⟨n5, 0, none⟩) HN5.out (.slice B1 (ins ek ev P).length d1)).setCell (p := ⟨n5, 1, none⟩) HN5.out (.slice B2 (ins ek ev P).length d2)); have B5 := Aside0.mk (blk_set b1_ 1 (.slice B2 (ins ek ev P).length d2)); clear b1_))
        go_roundg (es.length - (i + 1))
        case measure => have := hq.out; omega
        case rel => exact ⟨i + 1, B1, d1, B2, d2, by omega, ⟨rfl⟩, by go_num, ⟨by rw [HIS.out]; exact B5.out⟩, ⟨by rw [HIS.out]; exact HLR.out⟩, HB, ⟨by rw [HIS.out]; exact HK.out.ins HOK.out.1 HOK.out.2⟩⟩
    · have hkl : i = es.length := by omega
      subst hkl
      rw [List.take_length] at B5 HLR HK
      clear q1 hlt hi_ hq
      cases r1
      · go_wp2_with (first
          | (go_at_call 12; refine (PFnMapState.laws_areSteps.calls k1_ A0 c0 l _ 5 [0, 1, 2, 5, 6] false _ ?sa HCC.out ?sb (by decide) HS1.out).mono ?_; (case sa => exact Kd.C_below HC.out (HB.out.alloc HB.out.size (.cells #[.int .i64 0, .int .i64 1, .int .i64 2, .int .i64 5, .int .i64 6] 2))); (case sb => exact C_int_lit (heap_alloc_new _ _) rfl (by decide)); rintro e_ w2 ⟨rfl, hb⟩; have hb2 := below_then (below_alloc (Below.refl wr.heap.size wr) (.cells #[.int .i64 0, .int .i64 1, .int .i64 2, .int .i64 5, .int .i64 6] 2)) (below_alloc (Below.refl wr.heap.size wr) (.cells #[.int .i64 0, .int .i64 1, .int .i64 2, .int .i64 5, .int .i64 6] 2)).size hb; have HLR := Aside0.mk (HLR.out.below hb2); have B5 := Aside0.mk (blk_below B5.out hb2); have HB := Aside0.mk (below_then HB.out HB.out.size hb2); clear hb hb2)
          | (go_at_call 13; refine (stateAwake_any _).mono ?_; rintro e_ w9 ⟨rfl, hb9⟩))
        go_ret
        exact ⟨rfl, below_then HB.out HB.out.size hb9⟩
      have HST := Aside0.mk (HST.out rfl)
      by_cases hv10 : (es.length : Int) > 10
      · have t1 : decide ((es.length : Int) > 10) = true := by simpa using hv10
        go_wp2_with (first
          | (go_at_call 12; refine (PFnMapState.laws_areSteps.calls k1_ A0 c0 l _ 5 [0, 1, 2, 5, 6] true _ ?sa HCC.out ?sb (by decide) HS1.out).mono ?_; (case sa => exact Kd.C_below HC.out (HB.out.alloc HB.out.size (.cells #[.int .i64 0, .int .i64 1, .int .i64 2, .int .i64 5, .int .i64 6] 2))); (case sb => exact C_int_lit (heap_alloc_new _ _) rfl (by decide)); rintro e_ w2 ⟨rfl, hb⟩; have hb2 := below_then (below_alloc (Below.refl wr.heap.size wr) (.cells #[.int .i64 0, .int .i64 1, .int .i64 2, .int .i64 5, .int .i64 6] 2)) (below_alloc (Below.refl wr.heap.size wr) (.cells #[.int .i64 0, .int .i64 1, .int .i64 2, .int .i64 5, .int .i64 6] 2)).size hb; have HLR := Aside0.mk (HLR.out.below hb2); have B5 := Aside0.mk (blk_below B5.out hb2); have HB := Aside0.mk (below_then HB.out HB.out.size hb2); clear hb hb2)
          | (go_at_call 13; refine (stateAwake_any _).mono ?_; rintro e_ w9 ⟨rfl, hb9⟩))
        go_ret
        exact ⟨rfl, below_then HB.out HB.out.size hb9⟩
      have t1 : decide ((es.length : Int) > 10) = false := by simpa using hv10
      have HOP := Aside0.mk (show ∀ k, k < l.length → okStep [0, 1, 2, 5, 6] (rdP l k) from fun j hj => HST.out.2 j hj)
      have HL20 := Aside0.mk (show l.length ≤ 1000 by have := HST.out.1; omega)
      have HVL := Aside0.mk (show es.length ≤ 1000 by omega)
      go_wp2_with (first
        | (go_at_call 12; refine (PFnMapState.laws_areSteps.calls k1_ A0 c0 l _ 5 [0, 1, 2, 5, 6] true _ ?sa HCC.out ?sb (by decide) HS1.out).mono ?_; (case sa => exact Kd.C_below HC.out (HB.out.alloc HB.out.size (.cells #[.int .i64 0, .int .i64 1, .int .i64 2, .int .i64 5, .int .i64 6] 2))); (case sb => exact C_int_lit (heap_alloc_new _ _) rfl (by decide)); rintro e_ w2 ⟨rfl, hb⟩; have hb2 := below_then (below_alloc (Below.refl wr.heap.size wr) (.cells #[.int .i64 0, .int .i64 1, .int .i64 2, .int .i64 5, .int .i64 6] 2)) (below_alloc (Below.refl wr.heap.size wr) (.cells #[.int .i64 0, .int .i64 1, .int .i64 2, .int .i64 5, .int .i64 6] 2)).size hb; have HLR := Aside0.mk (HLR.out.below hb2); have B5 := Aside0.mk (blk_below B5.out hb2); have HB := Aside0.mk (below_then HB.out HB.out.size hb2); clear hb hb2)
        | (go_at_call 26; refine (listRun_any Ae ce es A0 c0 l _ ?sc ?sd HOP.out HL20.out HVL.out HK.out).mono ?_; (case sc => exact Kd.C_below HV.out HB.out); (case sd => exact Kd.C_below HC.out HB.out); rintro e_ w4 ⟨v4, rfl, hR4, hb⟩; obtain ⟨A4, c4, e4⟩ := Kd.R_slice hR4; subst e4; have HQ0 := Aside0.mk (Kd.Q_lower (Kd.Q_of_R hR4) HB.out.size); have HLR := Aside0.mk (HLR.out.below hb); have B5 := Aside0.mk (blk_below B5.out hb); have HB := Aside0.mk (below_then HB.out HB.out.size hb); clear hb hR4))
      have HBX := Aside0.mk (below_alloc (Below.refl w4.heap.size w4) (.cells #[.slice A4 (ansL l (isort es)).length c4, .bool true] 32))
      have HLR := Aside0.mk (HLR.out.below HBX.out)
      have B5 := Aside0.mk (blk_below B5.out HBX.out)
      have HAQ := Aside0.mk (show AQ (w4.alloc (.cells #[.slice A4 (ansL l (isort es)).length c4, .bool true] 32)) w.heap.size w4.heap.size (ansL l (isort es)) from ⟨A4, c4, heap_alloc_new w4 _, Kd.Q_below HQ0.out HBX.out⟩)
      have HAA := Aside0.mk (show w.heap.size ≤ w4.heap.size from HB.out.size)
      have HB := Aside0.mk (below_then HB.out HB.out.size HBX.out)
      obtain ⟨a, ha⟩ : ∃ a, a = w4.heap.size := ⟨_, rfl⟩
      rw [← ha] at HAQ HAA ⊢
      clear ha HBX HQ0 t1
      have HLC := Aside0.mk (show (isort es).length ≤ es.length + 0 by rw [Ord.isort_len]; omega)
      go_loopg [63] l.length (fun kq v63 w' => ∃ (k : Nat) (cur : List E2) (A1 : Option Addr) (c1 : Nat) (A2 : Option Addr) (c2 : Nat), k ≤ l.length ∧ Aside0 (kq = l.length - k) ∧ v63 = .int .i64 k ∧ Aside0 (w'.heap[n5]? = some (.cells #[.slice A1 cur.length c1, .slice A2 cur.length c2] 56 (0, 0))) ∧ Aside0 (LR w' w.heap.size A1 c1 A2 c2 cur) ∧ Aside0 (AQ w' w.heap.size a (ansL (l.drop k) cur)) ∧ Aside0 (Below w.heap.size w w') ∧ Aside0 (cur.length ≤ es.length + k))
      case atStart => exact ⟨0, isort es, _, _, _, _, Nat.zero_le _, ⟨by simp⟩, rfl, B5, HLR, HAQ, HB, HLC⟩
      case round =>
        clear B5 HLR HAQ HB HLC HK
        obtain ⟨k, cur, A1, c1, A2, c2, hk, hq, rfl, B5, HLR, HAQ, HB, HLC⟩ := hrel
        have q1 : (l.length : Int) ≤ 1000 := by have := HL20.out; omega
        have HCM := Aside0.mk (show cur.length ≤ 2147483647 by have := HLC.out; have := HVL.out; have := HL20.out; omega)
        have HCM2 := Aside0.mk (show cur.length ≤ 1000000 by have := HLC.out; have := HVL.out; have := HL20.out; omega)
        by_cases hlt : k < l.length
        · obtain ⟨ad, ea, x0, x1, x2, x3, x4⟩ := atP HC.out k hlt
          subst ea
          replace x0 := (HB.out.cell (World.block_lt_of_cell? w _ x0)).trans x0
          replace x1 := (HB.out.cell (World.block_lt_of_cell? w _ x1)).trans x1
          replace x2 := (HB.out.cell (World.block_lt_of_cell? w _ x2)).trans x2
          replace x3 := (HB.out.cell (World.block_lt_of_cell? w _ x3)).trans x3
          replace x4 := (HB.out.cell (World.block_lt_of_cell? w _ x4)).trans x4
          have HO := Aside0.mk (okStep_opL (HOP.out k hlt))
          have HD := Aside0.mk (drop_rdP l k hlt)
          generalize hx : rdP l k = x at x0 x1 x2 x3 x4 HO HD
          clear hx
          obtain ⟨s0, s1, s2, s3, s4⟩ := x
          simp only at x0 x1 x2 x3 x4
          have i0 := fun o => (blk_cell (blk_alloc B5.out o) 0).trans (rfl : _ = some (Value.slice A1 cur.length c1))
          have i1 := fun o => (blk_cell (blk_alloc B5.out o) 1).trans (rfl : _ = some (Value.slice A2 cur.length c2))
          have HBX := Aside0.mk (below_alloc (below_alloc (Below.refl wr.heap.size wr) (.cells #[.int .i64 s0, .string s1, .int .i64 s2, .int .i64 s3, .int .i64 s4] 26)) (.cells #[.slice A1 cur.length c1, .slice A2 cur.length c2] 56))
          have B11 := Aside0.mk (show ((wr.alloc (.cells #[.int .i64 s0, .string s1, .int .i64 s2, .int .i64 s3, .int .i64 s4] 26)).alloc (.cells #[.slice A1 cur.length c1, .slice A2 cur.length c2] 56)).heap[wr.heap.size + 1]? = some (.cells #[.slice A1 cur.length c1, .slice A2 cur.length c2] 56 (0, 0)) by have h := heap_alloc_new (wr.alloc (.cells #[.int .i64 s0, .string s1, .int .i64 s2, .int .i64 s3, .int .i64 s4] 26)) (.cells #[.slice A1 cur.length c1, .slice A2 cur.length c2] 56); rw [World.size_alloc] at h; exact h)
          have HN5L := Aside0.mk (blk_lt B5.out)
          have B5 := Aside0.mk (blk_below B5.out HBX.out)
          have HLR := Aside0.mk (HLR.out.below HBX.out)
          have HAQ := Aside0.mk (HAQ.out.below HBX.out)
          have HB := Aside0.mk (below_then HB.out HB.out.size HBX.out)
          have HN59 := Aside0.mk (show n5 < wr.heap.size from HN5L.out)
          have i2 := (blk_cell B5.out 0).trans (rfl : _ = some (Value.slice A1 cur.length c1))
          have i3 := (blk_cell B5.out 1).trans (rfl : _ = some (Value.slice A2 cur.length c2))
          rcases HO.out with e0 | e0 | e0 | e0 | e0
          · have t0 : (s0 == 0) = true := beq_iff_eq.2 e0
            have HA2 := Aside0.mk (show AQ ((wr.alloc (.cells #[.int .i64 s0, .string s1, .int .i64 s2, .int .i64 s3, .int .i64 s4] 26)).alloc (.cells #[.slice A1 cur.length c1, .slice A2 cur.length c2] 56)) w.heap.size a (ansL (l.drop (k + 1)) (ins s3 s2 cur)) by have h := HAQ.out; rw [HD.out] at h; simp only [ansL] at h; rw [if_pos (by exact e0)] at h; exact h)
            clear e0 HAQ
            have HAQ := HA2
            clear HA2
            go_wp2_with fail
            refine (stateAdd_any A1 c1 A2 c2 cur s3 s2 _ HLR.out.ls HCM.out).mono ?_
            rintro e_ w3 ⟨B1, d1, B2, d2, rfl, hLR, hb⟩
            have HLR := Aside0.mk (hLR.lower HB.out.size)
            have HB := Aside0.mk (below_then HB.out HB.out.size hb)
            have B5 := Aside0.mk (blk_below B5.out hb)
            have HAQ := Aside0.mk (HAQ.out.below hb)
            clear hLR hb i0 i1
            have y0 := (blk_cell B5.out 0).trans (rfl : _ = some (Value.slice A1 cur.length c1))
            have b1_ := blk_set B5.out 0 (.slice B1 (ins s3 s2 cur).length d1)
            have y1 := (blk_cell b1_ 1).trans (rfl : _ = some (Value.slice A2 cur.length c2))
            have f0 := blk_frozen B5.out 0
            have f1 := blk_frozen b1_ 1
            have HAQ := Aside0.mk ((HAQ.out.set B5.out (by decide) (by decide) 0 (.slice B1 (ins s3 s2 cur).length d1)).set b1_ (by decide) (by decide) 1 (.slice B2 (ins s3 s2 cur).length d2))
            have HB := Aside0.mk ((HB.out.setCell (p := ⟨n5, 0, none⟩) HN5.out (.slice B1 (ins s3 s2 cur).length d1)).setCell (p := ⟨n5, 1, none⟩) HN5.out (.slice B2 (ins s3 s2 cur).length d2))
            have HLR := Aside0.mk ((HLR.out.set B5.out (by decide) 0 (.slice B1 (ins s3 s2 cur).length d1)).set b1_ (by decide) 1 (.slice B2 (ins s3 s2 cur).length d2))
            have B5 := Aside0.mk (blk_set b1_ 1 (.slice B2 (ins s3 s2 cur).length d2))
            clear b1_
            go_wp2
            go_roundg (l.length - (k + 1))
            case measure => have := hq.out; omega
            case rel => exact ⟨k + 1, ins s3 s2 cur, _, _, _, _, by omega, ⟨rfl⟩, by go_num, B5, HLR, HAQ, HB, ⟨by rw [Ord.ins_len]; have := HLC.out; omega⟩⟩
          · have t0 : (s0 == 0) = false := beq_eq_false_iff_ne.2 (by simp only at e0; omega)
            have t1 : (s0 == 1) = true := beq_iff_eq.2 e0
            have HA2 := Aside0.mk (show AQ ((wr.alloc (.cells #[.int .i64 s0, .string s1, .int .i64 s2, .int .i64 s3, .int .i64 s4] 26)).alloc (.cells #[.slice A1 cur.length c1, .slice A2 cur.length c2] 56)) w.heap.size a (ansL (l.drop (k + 1)) (([] : List E2))) by have h := HAQ.out; rw [HD.out] at h; simp only [ansL] at h; rw [if_neg (by simp only at e0 ⊢; omega), if_pos (by exact e0)] at h; exact h)
            clear e0 HAQ
            have HAQ := HA2
            clear HA2
            skip
            have y0 := (blk_cell B5.out 0).trans (rfl : _ = some (Value.slice A1 cur.length c1))
            have b1_ := blk_set B5.out 0 (.slice none 0 0)
            have y1 := (blk_cell b1_ 1).trans (rfl : _ = some (Value.slice A2 cur.length c2))
            have f0 := blk_frozen B5.out 0
            have f1 := blk_frozen b1_ 1
            have HAQ := Aside0.mk ((HAQ.out.set B5.out (by decide) (by decide) 0 (.slice none 0 0)).set b1_ (by decide) (by decide) 1 (.slice none 0 0))
            have HB := Aside0.mk ((HB.out.setCell (p := ⟨n5, 0, none⟩) HN5.out (.slice none 0 0)).setCell (p := ⟨n5, 1, none⟩) HN5.out (.slice none 0 0))
            have HLR := Aside0.mk (LR.nil ((((wr.alloc (.cells #[.int .i64 s0, .string s1, .int .i64 s2, .int .i64 s3, .int .i64 s4] 26)).alloc (.cells #[.slice A1 cur.length c1, .slice A2 cur.length c2] 56)).setCell ⟨n5, 0, none⟩ (.slice none 0 0)).setCell ⟨n5, 1, none⟩ (.slice none 0 0)) w.heap.size)
            have B5 := Aside0.mk (blk_set b1_ 1 (.slice none 0 0))
            clear b1_
            go_wp2
            go_roundg (l.length - (k + 1))
            case measure => have := hq.out; omega
            case rel => exact ⟨k + 1, ([] : List E2), _, _, _, _, by omega, ⟨rfl⟩, by go_num, B5, HLR, HAQ, HB, ⟨Nat.zero_le _⟩⟩
          · have t0 : (s0 == 0) = false := beq_eq_false_iff_ne.2 (by simp only at e0; omega)
            have t1 : (s0 == 1) = false := beq_eq_false_iff_ne.2 (by simp only at e0; omega)
            have t6 : (s0 == 6) = false := beq_eq_false_iff_ne.2 (by simp only at e0; omega)
            have t5 : (s0 == 5) = false := beq_eq_false_iff_ne.2 (by simp only at e0; omega)
            have HA2 := Aside0.mk (show AQ ((wr.alloc (.cells #[.int .i64 s0, .string s1, .int .i64 s2, .int .i64 s3, .int .i64 s4] 26)).alloc (.cells #[.slice A1 cur.length c1, .slice A2 cur.length c2] 56)) w.heap.size a (rdL cur :: ansL (l.drop (k + 1)) cur) by have h := HAQ.out; rw [HD.out] at h; simp only [ansL] at h; rw [if_neg (by simp only at e0 ⊢; omega), if_neg (by simp only at e0 ⊢; omega), if_neg (by simp only at e0 ⊢; omega), if_neg (by simp only at e0 ⊢; omega)] at h; exact h)
            clear e0 HAQ
            have HAQ := HA2
            have HPL := HCM
            have HLP := HLR
            clear HA2
            have HXL := Aside0.mk (show (ansL (l.drop (k + 1)) cur).length ≤ 1000000 by have h := ansL_len (l.drop (k + 1)) cur; have := HL20.out; rw [List.length_drop] at h; omega)
            by_cases hz : 0 < cur.length
            · have q3 : (0 : Int) < cur.length := by omega
              go_wp2_with fail
              refine (next_l _ _ _ cur _ HAQ.out HXL.out).mono ?_
              rintro e_ w5 ⟨A5, c5, A6, c6, A7, c7, rfl, hl5, ha5, hg5⟩
              rw [decide_eq_true hz]
              have B11 := Aside0.mk (blk_aq B11.out HAQ.out (by decide) hg5)
              have B5 := Aside0.mk (blk_aq B5.out HAQ.out (by decide) hg5)
              have HLR := Aside0.mk (HLR.out.aq HAQ.out hg5)
              have HLP := Aside0.mk (HLP.out.aq HAQ.out hg5)
              have HB := Aside0.mk (grown_bel HB.out hg5 HAA.out HB.out.size)
              have HL5 := Aside0.mk hl5
              have HAQ := Aside0.mk ha5
              have p0 := fun o => (blk_cell (blk_alloc B11.out o) 0).trans (rfl : _ = some (Value.slice A1 cur.length c1))
              clear hl5 ha5 hg5
              go_wp2_with fail
              refine (same_k1 cur A7 c7 A1 c1 _ w.heap.size w.heap.size (Kd.R_alloc HL5.out.a _) (Kd.R_alloc HLP.out.a _) HPL.out).mono ?_
              rintro e_ w6 ⟨rfl, hb6⟩
              have hb6x := hb6
              have B12 := Aside0.mk (heap_alloc_new w5 (.cells #[.bool true, .slice A5 cur.length c5, .slice A6 0 c6, .slice A7 cur.length c7] 36))
              have hb6 := below_then (below_alloc (Below.refl w5.heap.size w5) (.cells #[.bool true, .slice A5 cur.length c5, .slice A6 0 c6, .slice A7 cur.length c7] 36)) (below_alloc (Below.refl w5.heap.size w5) _).size hb6
              have B11 := Aside0.mk (blk_below B11.out hb6)
              have B5 := Aside0.mk (blk_below B5.out hb6)
              have HLR := Aside0.mk (HLR.out.below hb6)
              have HLP := Aside0.mk (HLP.out.below hb6)
              have HL5 := Aside0.mk (HL5.out.below hb6)
              have HAQ := Aside0.mk (HAQ.out.below hb6)
              have HB := Aside0.mk (below_then HB.out HB.out.size hb6)
              have B12 := Aside0.mk (blk_below B12.out hb6x)
              have p1 := (blk_cell B11.out 1).trans (rfl : _ = some (Value.slice A2 cur.length c2))
              have p2 := (blk_cell B12.out 1).trans (rfl : _ = some (Value.slice A5 cur.length c5))
              clear hb6 hb6x p0
              go_wp2_with fail
              refine (same_k2 cur A5 c5 A2 c2 _ w.heap.size w.heap.size HL5.out.v HLP.out.v HPL.out).mono ?_
              rintro e_ w7 ⟨rfl, hb7⟩
              have B5 := Aside0.mk (blk_below B5.out hb7)
              have HLR := Aside0.mk (HLR.out.below hb7)
              have HAQ := Aside0.mk (HAQ.out.below hb7)
              have HB := Aside0.mk (below_then HB.out HB.out.size hb7)
              clear hb7 p1 p2
              go_wp2_with fail
              refine (check_q _ _ _ _ HAQ.out).mono ?_
              rintro e_ w8 ⟨rfl, ha8, hg8⟩
              have B5 := Aside0.mk (blk_aq B5.out HAQ.out (by decide) hg8)
              have HLR := Aside0.mk (HLR.out.aq HAQ.out hg8)
              have HB := Aside0.mk (grown_bel HB.out hg8 HAA.out HB.out.size)
              have HAQ := Aside0.mk ha8
              clear ha8 hg8
              go_wp2
              go_roundg (l.length - (k + 1))
              case measure => have := hq.out; omega
              case rel => exact ⟨k + 1, cur, A1, c1, A2, c2, by omega, ⟨rfl⟩, by go_num, B5, HLR, HAQ, HB, ⟨by have := HLC.out; omega⟩⟩
            · obtain rfl : cur = [] := List.eq_nil_of_length_eq_zero (by omega)
              go_wp2_with fail
              refine (next_l _ _ _ ([] : List E2) _ HAQ.out HXL.out).mono ?_
              rintro e_ w5 ⟨A5, c5, A6, c6, A7, c7, rfl, hl5, ha5, hg5⟩
              rw [show decide (0 < ([] : List E2).length) = false from rfl]
              have B11 := Aside0.mk (blk_aq B11.out HAQ.out (by decide) hg5)
              have B5 := Aside0.mk (blk_aq B5.out HAQ.out (by decide) hg5)
              have HLR := Aside0.mk (HLR.out.aq HAQ.out hg5)
              have HLP := Aside0.mk (HLP.out.aq HAQ.out hg5)
              have HB := Aside0.mk (grown_bel HB.out hg5 HAA.out HB.out.size)
              have HL5 := Aside0.mk hl5
              have HAQ := Aside0.mk ha5
              have p0 := fun o => (blk_cell (blk_alloc B11.out o) 0).trans (rfl : _ = some (Value.slice A1 ([] : List E2).length c1))
              clear hl5 ha5 hg5
              go_wp2_with fail
              refine (same_k1 ([] : List E2) A7 c7 A1 c1 _ w.heap.size w.heap.size (Kd.R_alloc HL5.out.a _) (Kd.R_alloc HLP.out.a _) HPL.out).mono ?_
              rintro e_ w6 ⟨rfl, hb6⟩
              have hb6x := hb6
              have B12 := Aside0.mk (heap_alloc_new w5 (.cells #[.bool false, .slice A5 ([] : List E2).length c5, .slice A6 0 c6, .slice A7 ([] : List E2).length c7] 36))
              have hb6 := below_then (below_alloc (Below.refl w5.heap.size w5) (.cells #[.bool false, .slice A5 ([] : List E2).length c5, .slice A6 0 c6, .slice A7 ([] : List E2).length c7] 36)) (below_alloc (Below.refl w5.heap.size w5) _).size hb6
              have B11 := Aside0.mk (blk_below B11.out hb6)
              have B5 := Aside0.mk (blk_below B5.out hb6)
              have HLR := Aside0.mk (HLR.out.below hb6)
              have HLP := Aside0.mk (HLP.out.below hb6)
              have HL5 := Aside0.mk (HL5.out.below hb6)
              have HAQ := Aside0.mk (HAQ.out.below hb6)
              have HB := Aside0.mk (below_then HB.out HB.out.size hb6)
              have B12 := Aside0.mk (blk_below B12.out hb6x)
              have p1 := (blk_cell B11.out 1).trans (rfl : _ = some (Value.slice A2 ([] : List E2).length c2))
              have p2 := (blk_cell B12.out 1).trans (rfl : _ = some (Value.slice A5 ([] : List E2).length c5))
              clear hb6 hb6x p0
              go_wp2_with fail
              refine (same_k2 ([] : List E2) A5 c5 A2 c2 _ w.heap.size w.heap.size HL5.out.v HLP.out.v HPL.out).mono ?_
              rintro e_ w7 ⟨rfl, hb7⟩
              have B5 := Aside0.mk (blk_below B5.out hb7)
              have HLR := Aside0.mk (HLR.out.below hb7)
              have HAQ := Aside0.mk (HAQ.out.below hb7)
              have HB := Aside0.mk (below_then HB.out HB.out.size hb7)
              clear hb7 p1 p2
              go_wp2_with fail
              refine (check_q _ _ _ _ HAQ.out).mono ?_
              rintro e_ w8 ⟨rfl, ha8, hg8⟩
              have B5 := Aside0.mk (blk_aq B5.out HAQ.out (by decide) hg8)
              have HLR := Aside0.mk (HLR.out.aq HAQ.out hg8)
              have HB := Aside0.mk (grown_bel HB.out hg8 HAA.out HB.out.size)
              have HAQ := Aside0.mk ha8
              clear ha8 hg8
              go_wp2
              go_roundg (l.length - (k + 1))
              case measure => have := hq.out; omega
              case rel => exact ⟨k + 1, ([] : List E2), A1, c1, A2, c2, by omega, ⟨rfl⟩, by go_num, B5, HLR, HAQ, HB, ⟨by have := HLC.out; omega⟩⟩
          · have t0 : (s0 == 0) = false := beq_eq_false_iff_ne.2 (by simp only at e0; omega)
            have t1 : (s0 == 1) = false := beq_eq_false_iff_ne.2 (by simp only at e0; omega)
            have t6 : (s0 == 6) = false := beq_eq_false_iff_ne.2 (by simp only at e0; omega)
            have t5 : (s0 == 5) = true := beq_iff_eq.2 e0
            have HA2 := Aside0.mk (show AQ ((wr.alloc (.cells #[.int .i64 s0, .string s1, .int .i64 s2, .int .i64 s3, .int .i64 s4] 26)).alloc (.cells #[.slice A1 cur.length c1, .slice A2 cur.length c2] 56)) w.heap.size a (rdL (cur.filter (pt s3 s4 false)) :: ansL (l.drop (k + 1)) cur) by have h := HAQ.out; rw [HD.out] at h; simp only [ansL] at h; rw [if_neg (by simp only at e0 ⊢; omega), if_neg (by simp only at e0 ⊢; omega), if_neg (by simp only at e0 ⊢; omega), if_pos (by exact e0)] at h; exact h)
            clear e0 HAQ
            have HAQ := HA2
            clear HA2
            have HPL := Aside0.mk (show (cur.filter (pt s3 s4 false)).length ≤ 2147483647 by have := List.length_filter_le (pt s3 s4 false) cur; have := HCM.out; omega)
            have HXL := Aside0.mk (show (ansL (l.drop (k + 1)) cur).length ≤ 1000000 by have h := ansL_len (l.drop (k + 1)) cur; have := HL20.out; rw [List.length_drop] at h; omega)
            have HSP := Aside0.mk (fun W (h : LS W A1 c1 A2 c2 cur) => statePart_any A1 c1 A2 c2 cur s3 s4 false W h HCM2.out)
            generalize cur.filter (pt s3 s4 false) = p at HAQ HPL HSP
            have HNW := Aside0.mk (show w.heap.size ≤ wr.heap.size + 1 by have := HN59.out; have := HN5.out; omega)
            go_wp2_with fail
            refine (HSP.out _ HLR.out.ls).mono ?_
            rintro e_ w3 ⟨B1, d1, B2, d2, rfl, hLR, hb⟩
            have HLP := Aside0.mk (hLR.lower HB.out.size)
            have HLR := Aside0.mk (HLR.out.below hb)
            have HB := Aside0.mk (below_then HB.out HB.out.size hb)
            have B5 := Aside0.mk (blk_below B5.out hb)
            have B11 := Aside0.mk (blk_below B11.out hb)
            have HAQ := Aside0.mk (HAQ.out.below hb)
            have HN11 := Aside0.mk (show n5 ≠ wr.heap.size + 1 by have := HN59.out; omega)
            clear hLR hb i0 i1 i2 i3
            have y0 := (blk_cell B11.out 0).trans (rfl : _ = some (Value.slice A1 cur.length c1))
            have b1_ := blk_set B11.out 0 (.slice B1 p.length d1)
            have y1 := (blk_cell b1_ 1).trans (rfl : _ = some (Value.slice A2 cur.length c2))
            have f0 := blk_frozen B11.out 0
            have f1 := blk_frozen b1_ 1
            have HAQ := Aside0.mk ((HAQ.out.set B11.out (by decide) (by decide) 0 (.slice B1 p.length d1)).set b1_ (by decide) (by decide) 1 (.slice B2 p.length d2))
            have HLR := Aside0.mk ((HLR.out.set B11.out (by decide) 0 (.slice B1 p.length d1)).set b1_ (by decide) 1 (.slice B2 p.length d2))
            have HLP := Aside0.mk ((HLP.out.set B11.out (by decide) 0 (.slice B1 p.length d1)).set b1_ (by decide) 1 (.slice B2 p.length d2))
            have HB := Aside0.mk ((HB.out.setCell (p := ⟨wr.heap.size + 1, 0, none⟩) HNW.out (.slice B1 p.length d1)).setCell (p := ⟨wr.heap.size + 1, 1, none⟩) HNW.out (.slice B2 p.length d2))
            have B5 := Aside0.mk (blk_far (p := ⟨wr.heap.size + 1, 1, none⟩) (blk_far (p := ⟨wr.heap.size + 1, 0, none⟩) B5.out HN11.out (.slice B1 p.length d1)) HN11.out (.slice B2 p.length d2))
            have B11 := Aside0.mk (blk_set b1_ 1 (.slice B2 p.length d2))
            clear b1_
            go_wp2_with fail
            by_cases hz : 0 < p.length
            · have q3 : (0 : Int) < p.length := by omega
              refine (next_l _ _ _ p _ HAQ.out HXL.out).mono ?_
              rintro e_ w5 ⟨A5, c5, A6, c6, A7, c7, rfl, hl5, ha5, hg5⟩
              rw [decide_eq_true hz]
              have B11 := Aside0.mk (blk_aq B11.out HAQ.out (by decide) hg5)
              have B5 := Aside0.mk (blk_aq B5.out HAQ.out (by decide) hg5)
              have HLR := Aside0.mk (HLR.out.aq HAQ.out hg5)
              have HLP := Aside0.mk (HLP.out.aq HAQ.out hg5)
              have HB := Aside0.mk (grown_bel HB.out hg5 HAA.out HB.out.size)
              have HL5 := Aside0.mk hl5
              have HAQ := Aside0.mk ha5
              have p0 := fun o => (blk_cell (blk_alloc B11.out o) 0).trans (rfl : _ = some (Value.slice B1 p.length d1))
              clear hl5 ha5 hg5
              go_wp2_with fail
              refine (same_k1 p A7 c7 B1 d1 _ w.heap.size w.heap.size (Kd.R_alloc HL5.out.a _) (Kd.R_alloc HLP.out.a _) HPL.out).mono ?_
              rintro e_ w6 ⟨rfl, hb6⟩
              have hb6x := hb6
              have B12 := Aside0.mk (heap_alloc_new w5 (.cells #[.bool true, .slice A5 p.length c5, .slice A6 0 c6, .slice A7 p.length c7] 36))
              have hb6 := below_then (below_alloc (Below.refl w5.heap.size w5) (.cells #[.bool true, .slice A5 p.length c5, .slice A6 0 c6, .slice A7 p.length c7] 36)) (below_alloc (Below.refl w5.heap.size w5) _).size hb6
              have B11 := Aside0.mk (blk_below B11.out hb6)
              have B5 := Aside0.mk (blk_below B5.out hb6)
              have HLR := Aside0.mk (HLR.out.below hb6)
              have HLP := Aside0.mk (HLP.out.below hb6)
              have HL5 := Aside0.mk (HL5.out.below hb6)
              have HAQ := Aside0.mk (HAQ.out.below hb6)
              have HB := Aside0.mk (below_then HB.out HB.out.size hb6)
              have B12 := Aside0.mk (blk_below B12.out hb6x)
              have p1 := (blk_cell B11.out 1).trans (rfl : _ = some (Value.slice B2 p.length d2))
              have p2 := (blk_cell B12.out 1).trans (rfl : _ = some (Value.slice A5 p.length c5))
              clear hb6 hb6x p0
              go_wp2_with fail
              refine (same_k2 p A5 c5 B2 d2 _ w.heap.size w.heap.size HL5.out.v HLP.out.v HPL.out).mono ?_
              rintro e_ w7 ⟨rfl, hb7⟩
              have B5 := Aside0.mk (blk_below B5.out hb7)
              have HLR := Aside0.mk (HLR.out.below hb7)
              have HAQ := Aside0.mk (HAQ.out.below hb7)
              have HB := Aside0.mk (below_then HB.out HB.out.size hb7)
              clear hb7 p1 p2
              go_wp2_with fail
              refine (check_q _ _ _ _ HAQ.out).mono ?_
              rintro e_ w8 ⟨rfl, ha8, hg8⟩
              have B5 := Aside0.mk (blk_aq B5.out HAQ.out (by decide) hg8)
              have HLR := Aside0.mk (HLR.out.aq HAQ.out hg8)
              have HB := Aside0.mk (grown_bel HB.out hg8 HAA.out HB.out.size)
              have HAQ := Aside0.mk ha8
              clear ha8 hg8
              go_wp2
              go_roundg (l.length - (k + 1))
              case measure => have := hq.out; omega
              case rel => exact ⟨k + 1, cur, A1, c1, A2, c2, by omega, ⟨rfl⟩, by go_num, B5, HLR, HAQ, HB, ⟨by have := HLC.out; omega⟩⟩
            · obtain rfl : p = [] := List.eq_nil_of_length_eq_zero (by omega)
              refine (next_l _ _ _ ([] : List E2) _ HAQ.out HXL.out).mono ?_
              rintro e_ w5 ⟨A5, c5, A6, c6, A7, c7, rfl, hl5, ha5, hg5⟩
              rw [show decide (0 < ([] : List E2).length) = false from rfl]
              have B11 := Aside0.mk (blk_aq B11.out HAQ.out (by decide) hg5)
              have B5 := Aside0.mk (blk_aq B5.out HAQ.out (by decide) hg5)
              have HLR := Aside0.mk (HLR.out.aq HAQ.out hg5)
              have HLP := Aside0.mk (HLP.out.aq HAQ.out hg5)
              have HB := Aside0.mk (grown_bel HB.out hg5 HAA.out HB.out.size)
              have HL5 := Aside0.mk hl5
              have HAQ := Aside0.mk ha5
              have p0 := fun o => (blk_cell (blk_alloc B11.out o) 0).trans (rfl : _ = some (Value.slice B1 ([] : List E2).length d1))
              clear hl5 ha5 hg5
              go_wp2_with fail
              refine (same_k1 ([] : List E2) A7 c7 B1 d1 _ w.heap.size w.heap.size (Kd.R_alloc HL5.out.a _) (Kd.R_alloc HLP.out.a _) HPL.out).mono ?_
              rintro e_ w6 ⟨rfl, hb6⟩
              have hb6x := hb6
              have B12 := Aside0.mk (heap_alloc_new w5 (.cells #[.bool false, .slice A5 ([] : List E2).length c5, .slice A6 0 c6, .slice A7 ([] : List E2).length c7] 36))
              have hb6 := below_then (below_alloc (Below.refl w5.heap.size w5) (.cells #[.bool false, .slice A5 ([] : List E2).length c5, .slice A6 0 c6, .slice A7 ([] : List E2).length c7] 36)) (below_alloc (Below.refl w5.heap.size w5) _).size hb6
              have B11 := Aside0.mk (blk_below B11.out hb6)
              have B5 := Aside0.mk (blk_below B5.out hb6)
              have HLR := Aside0.mk (HLR.out.below hb6)
              have HLP := Aside0.mk (HLP.out.below hb6)
              have HL5 := Aside0.mk (HL5.out.below hb6)
              have HAQ := Aside0.mk (HAQ.out.below hb6)
              have HB := Aside0.mk (below_then HB.out HB.out.size hb6)
              have B12 := Aside0.mk (blk_below B12.out hb6x)
              have p1 := (blk_cell B11.out 1).trans (rfl : _ = some (Value.slice B2 ([] : List E2).length d2))
              have p2 := (blk_cell B12.out 1).trans (rfl : _ = some (Value.slice A5 ([] : List E2).length c5))
              clear hb6 hb6x p0
              go_wp2_with fail
              refine (same_k2 ([] : List E2) A5 c5 B2 d2 _ w.heap.size w.heap.size HL5.out.v HLP.out.v HPL.out).mono ?_
              rintro e_ w7 ⟨rfl, hb7⟩
              have B5 := Aside0.mk (blk_below B5.out hb7)
              have HLR := Aside0.mk (HLR.out.below hb7)
              have HAQ := Aside0.mk (HAQ.out.below hb7)
              have HB := Aside0.mk (below_then HB.out HB.out.size hb7)
              clear hb7 p1 p2
              go_wp2_with fail
              refine (check_q _ _ _ _ HAQ.out).mono ?_
              rintro e_ w8 ⟨rfl, ha8, hg8⟩
              have B5 := Aside0.mk (blk_aq B5.out HAQ.out (by decide) hg8)
              have HLR := Aside0.mk (HLR.out.aq HAQ.out hg8)
              have HB := Aside0.mk (grown_bel HB.out hg8 HAA.out HB.out.size)
              have HAQ := Aside0.mk ha8
              clear ha8 hg8
              go_wp2
              go_roundg (l.length - (k + 1))
              case measure => have := hq.out; omega
              case rel => exact ⟨k + 1, cur, A1, c1, A2, c2, by omega, ⟨rfl⟩, by go_num, B5, HLR, HAQ, HB, ⟨by have := HLC.out; omega⟩⟩
          · have t0 : (s0 == 0) = false := beq_eq_false_iff_ne.2 (by simp only at e0; omega)
            have t1 : (s0 == 1) = false := beq_eq_false_iff_ne.2 (by simp only at e0; omega)
            have t6 : (s0 == 6) = true := beq_iff_eq.2 e0
            have HA2 := Aside0.mk (show AQ ((wr.alloc (.cells #[.int .i64 s0, .string s1, .int .i64 s2, .int .i64 s3, .int .i64 s4] 26)).alloc (.cells #[.slice A1 cur.length c1, .slice A2 cur.length c2] 56)) w.heap.size a (ansL (l.drop (k + 1)) (cur.filter (pt s3 s4 true))) by have h := HAQ.out; rw [HD.out] at h; simp only [ansL] at h; rw [if_neg (by simp only at e0 ⊢; omega), if_neg (by simp only at e0 ⊢; omega), if_pos (by exact e0)] at h; exact h)
            clear e0 HAQ
            have HAQ := HA2
            clear HA2
            go_wp2_with fail
            refine (statePart_any A1 c1 A2 c2 cur s3 s4 true _ HLR.out.ls HCM2.out).mono ?_
            rintro e_ w3 ⟨B1, d1, B2, d2, rfl, hLR, hb⟩
            have HLR := Aside0.mk (hLR.lower HB.out.size)
            have HB := Aside0.mk (below_then HB.out HB.out.size hb)
            have B5 := Aside0.mk (blk_below B5.out hb)
            have HAQ := Aside0.mk (HAQ.out.below hb)
            clear hLR hb i0 i1
            have y0 := (blk_cell B5.out 0).trans (rfl : _ = some (Value.slice A1 cur.length c1))
            have b1_ := blk_set B5.out 0 (.slice B1 (cur.filter (pt s3 s4 true)).length d1)
            have y1 := (blk_cell b1_ 1).trans (rfl : _ = some (Value.slice A2 cur.length c2))
            have f0 := blk_frozen B5.out 0
            have f1 := blk_frozen b1_ 1
            have HAQ := Aside0.mk ((HAQ.out.set B5.out (by decide) (by decide) 0 (.slice B1 (cur.filter (pt s3 s4 true)).length d1)).set b1_ (by decide) (by decide) 1 (.slice B2 (cur.filter (pt s3 s4 true)).length d2))
            have HB := Aside0.mk ((HB.out.setCell (p := ⟨n5, 0, none⟩) HN5.out (.slice B1 (cur.filter (pt s3 s4 true)).length d1)).setCell (p := ⟨n5, 1, none⟩) HN5.out (.slice B2 (cur.filter (pt s3 s4 true)).length d2))
            have HLR := Aside0.mk ((HLR.out.set B5.out (by decide) 0 (.slice B1 (cur.filter (pt s3 s4 true)).length d1)).set b1_ (by decide) 1 (.slice B2 (cur.filter (pt s3 s4 true)).length d2))
            have B5 := Aside0.mk (blk_set b1_ 1 (.slice B2 (cur.filter (pt s3 s4 true)).length d2))
            clear b1_
            go_wp2
            go_roundg (l.length - (k + 1))
            case measure => have := hq.out; omega
            case rel => exact ⟨k + 1, cur.filter (pt s3 s4 true), _, _, _, _, by omega, ⟨rfl⟩, by go_num, B5, HLR, HAQ, HB, ⟨by have := List.length_filter_le (pt s3 s4 true) cur; have := HLC.out; omega⟩⟩
        · have hkl : k = l.length := by omega
          subst hkl
          rw [List.drop_length] at HAQ
          go_wp2_with (first
            | (go_at_call 18; refine (end_q _ _ _ HAQ.out).mono ?_; rintro e_ w8 ⟨rfl, rfl⟩)
            | (go_at_call 13; refine (stateAwake_any _).mono ?_; rintro e_ w9 ⟨rfl, hb9⟩))
          go_ret
          exact ⟨rfl, below_then HB.out HB.out.size hb9⟩
end Go.Proofs.Ytoigekmdicepnaa
