/- The law of a value's state. -/
import Derived.Test.YtoigekmdicepnaaSi
set_option linter.unusedVariables false
set_option linter.unusedSimpArgs false
namespace Go.Proofs.Ytoigekmdicepnaa
open Go.RowKit Go.Proofs.YtoigekmdicepnaaW.PrintWords Go.Proofs.YtoigekmdicepnaaW.PrintLast Go.Proofs.YtoigekmdicepnaaW.PrintMore
open PFnMapState (S26 k26 S36 k36 k26_open k36_mkM k36_open z26 z36)

theorem new2' (w : World) (o1 o2 : Obj) : ((w.alloc o1).alloc o2).heap[w.heap.size + 1]? = some o2 := by have := heap_alloc_new (w.alloc o1) o2; rwa [World.size_alloc] at this
def one (val : Int) : List S26 := [⟨0, ByteArray.empty, val, 0, 0⟩]
theorem okStep_op {s : S26} (h : okStep [0, 1, 2] s) : opV s := by
  have h := h.1
  simp only [List.contains_cons, List.contains_nil, Bool.or_false, Bool.or_eq_true, beq_iff_eq] at h
  exact h
theorem AV.bw {w W1 w' : World} {a : Nat} {xs : List S36} (h : AV W1 w' a xs) (hb : Below w.heap.size w W1) : Below w.heap.size w w' := by
  obtain ⟨A, c, _, _, _, h4, _⟩ := h
  exact below_then hb hb.size h4
theorem AV.w1 {W1 w' : World} {a : Nat} {xs : List S36} (h : AV W1 w' a xs) : Below W1.heap.size W1 w' := by
  obtain ⟨A, c, _, _, _, h4, _⟩ := h
  exact h4
theorem AV_start {w : World} {A : Option Addr} {c : Nat} {xs : List S36} (hC : Kd.C k36 w A xs.length xs) (hc : xs.length ≤ c) : AV w (w.alloc (.cells #[.slice A xs.length c, .bool true] 32)) w.heap.size xs :=
  ⟨A, c, heap_alloc_new w _, hC, hc, below_alloc (Below.refl _ _) _, Nat.le_refl _⟩
theorem ansV_len : ∀ (l : List S26) (cur : Option Int), (ansV l cur).length ≤ l.length
  | [], _ => Nat.le_refl _
  | s :: l, cur => by
    unfold ansV
    split
    · exact Nat.le_succ_of_le (ansV_len l _)
    · split
      · exact Nat.le_succ_of_le (ansV_len l _)
      · exact Nat.succ_le_succ (ansV_len l _)
set_option maxRecDepth 100000 in
set_option maxHeartbeats 8000000 in
theorem valueLaw_walk (has : Bool) (val : Int) (A0 : Option Addr) (c0 : Nat) (l : List S26) (w : World) (_hv : (Lit.int IntKind.i64 val).wf = true) (hC : Kd.C k26 w A0 l.length l) (hc : l.length ≤ c0) :
    Calls Try.prog 3 #[.bool has, .int .i64 val, .slice A0 l.length c0] w fun e w' => e = .returned (.bool true) ∧ Below w.heap.size w w' := by
  clear _hv
  obtain ⟨kf, r, hf, hfl⟩ := fits7_some l
  have HC := Aside0.mk hC
  have HF := Aside0.mk hf
  have HCC := Aside0.mk hc
  clear hC hf hc
  cases r
  · clear hfl
    go_enter Try.func3, Try.ntmps3
    go_wp2_with (go_at_call 11; refine (PFnMapState.laws_zzFits7.calls kf A0 c0 l false _ HC.out HCC.out HF.out).mono ?_; rintro e_ w1 ⟨rfl, hb⟩)
    go_ret
    exact ⟨rfl, hb⟩
  have hll := hfl rfl
  have HL := Aside0.mk hll
  obtain ⟨k1, r1, hs1, hs1t⟩ := areSteps_some l [0, 1, 2] hll (by decide)
  have HS1 := Aside0.mk hs1
  clear hs1 hfl hll
  cases r1
  · clear hs1t
    go_enter Try.func3, Try.ntmps3
    go_wp2_with (first
      | (go_at_call 11; refine (PFnMapState.laws_zzFits7.calls kf A0 c0 l true _ HC.out HCC.out HF.out).mono ?_; rintro e_ w1 ⟨rfl, hb⟩; have HB1 := Aside0.mk hb; clear hb)
      | (go_at_call 12; refine (PFnMapState.laws_areSteps.calls k1 A0 c0 l _ 3 [0, 1, 2] false _ ?sa HCC.out ?sb (by decide) HS1.out).mono ?_; (case sa => exact Kd.C_below HC.out (below_then HB1.out HB1.out.size (below_alloc (Below.refl _ _) _))); (case sb => exact C_int_lit (heap_alloc_new _ _) rfl (by decide)); rintro e_ w2 ⟨rfl, hb⟩; have HB2 := Aside0.mk (below_then (HB1.out.alloc HB1.out.size (.cells #[.int .i64 0, .int .i64 1, .int .i64 2] 2)) (HB1.out.alloc HB1.out.size _).size hb); clear hb)
      | (go_at_call 13; refine (stateAwake_any _).mono ?_; rintro e_ w9 ⟨rfl, hb9⟩))
    go_ret
    exact ⟨rfl, below_then HB2.out HB2.out.size hb9⟩
  have HST := Aside0.mk (hs1t rfl)
  clear hs1t
  obtain ⟨k2, r2, hs2, _⟩ := areSteps_some (one val) [0] (show 1 ≤ 2147483647 by decide) (by decide)
  have HS2 := Aside0.mk hs2
  clear hs2
  cases r2
  · go_enter Try.func3, Try.ntmps3
    go_wp2_with (first
      | (go_at_call 11; refine (PFnMapState.laws_zzFits7.calls kf A0 c0 l true _ HC.out HCC.out HF.out).mono ?_; rintro e_ w1 ⟨rfl, hb⟩; have HB1 := Aside0.mk hb; clear hb)
      | (go_at_call 12; have hmark := HB2; clear hmark; refine (PFnMapState.laws_areSteps.calls k2 _ 1 (one val) _ 1 [0] false _ ?sa (Nat.le_refl 1) ?sb (Nat.le_refl 1) HS2.out).mono ?_; (case sa => exact Ck26_lit (xs := one val) (blk_alloc (heap_alloc_new w2 (.cells #[.int .i64 0, .string ByteArray.empty, .int .i64 val, .int .i64 0, .int .i64 0] 26)) _) rfl (show 1 ≤ 1000 by decide)); (case sb => exact C_int_lit (new2' w2 _ _) rfl (by decide)); rintro e_ w3 ⟨rfl, hb⟩; have HB3 := Aside0.mk (below_then ((HB2.out.alloc HB2.out.size (.cells #[.int .i64 0, .string ByteArray.empty, .int .i64 val, .int .i64 0, .int .i64 0] 26)).alloc (HB2.out.alloc HB2.out.size _).size (.cells #[.int .i64 0] 2)) ((HB2.out.alloc HB2.out.size _).alloc (HB2.out.alloc HB2.out.size _).size _).size hb); clear hb)
      | (go_at_call 12; refine (PFnMapState.laws_areSteps.calls k1 A0 c0 l _ 3 [0, 1, 2] true _ ?sa HCC.out ?sb (by decide) HS1.out).mono ?_; (case sa => exact Kd.C_below HC.out (below_then HB1.out HB1.out.size (below_alloc (Below.refl _ _) _))); (case sb => exact C_int_lit (heap_alloc_new _ _) rfl (by decide)); rintro e_ w2 ⟨rfl, hb⟩; have HB2 := Aside0.mk (below_then (HB1.out.alloc HB1.out.size (.cells #[.int .i64 0, .int .i64 1, .int .i64 2] 2)) (HB1.out.alloc HB1.out.size _).size hb); clear hb)
      | (go_at_call 13; refine (stateAwake_any _).mono ?_; rintro e_ w9 ⟨rfl, hb9⟩))
    go_ret
    exact ⟨rfl, below_then HB3.out HB3.out.size hb9⟩
  have HOP := Aside0.mk (fun j hj => okStep_op (HST.out.2 j hj))
  have HL20 := Aside0.mk (show l.length ≤ 1000 by have := HST.out.1; omega)
  obtain ⟨o, ho⟩ : ∃ o, o = (if has = true then some val else none) := ⟨_, rfl⟩
  have HHO := Aside0.mk (show has = o.isSome by rw [ho]; cases has <;> rfl)
  have HVO := Aside0.mk (show o.isSome = true → val = optN o by rw [ho]; cases has <;> simp [optN])
  have HO := Aside0.mk ho.symm
  clear ho
  go_enter Try.func3, Try.ntmps3
  go_wp2_with (first
    | (go_at_call 11; refine (PFnMapState.laws_zzFits7.calls kf A0 c0 l true _ HC.out HCC.out HF.out).mono ?_; rintro e_ w1 ⟨rfl, hb⟩; have HB1 := Aside0.mk hb; clear hb)
    | (go_at_call 12; have hmark := HB2; clear hmark; refine (PFnMapState.laws_areSteps.calls k2 _ 1 (one val) _ 1 [0] true _ ?sa (Nat.le_refl 1) ?sb (Nat.le_refl 1) HS2.out).mono ?_; (case sa => exact Ck26_lit (xs := one val) (blk_alloc (heap_alloc_new w2 (.cells #[.int .i64 0, .string ByteArray.empty, .int .i64 val, .int .i64 0, .int .i64 0] 26)) _) rfl (show 1 ≤ 1000 by decide)); (case sb => exact C_int_lit (new2' w2 _ _) rfl (by decide)); rintro e_ w3 ⟨rfl, hb⟩; have HB3 := Aside0.mk (below_then ((HB2.out.alloc HB2.out.size (.cells #[.int .i64 0, .string ByteArray.empty, .int .i64 val, .int .i64 0, .int .i64 0] 26)).alloc (HB2.out.alloc HB2.out.size _).size (.cells #[.int .i64 0] 2)) ((HB2.out.alloc HB2.out.size _).alloc (HB2.out.alloc HB2.out.size _).size _).size hb); clear hb)
    | (go_at_call 12; refine (PFnMapState.laws_areSteps.calls k1 A0 c0 l _ 3 [0, 1, 2] true _ ?sa HCC.out ?sb (by decide) HS1.out).mono ?_; (case sa => exact Kd.C_below HC.out (below_then HB1.out HB1.out.size (below_alloc (Below.refl _ _) _))); (case sb => exact C_int_lit (heap_alloc_new _ _) rfl (by decide)); rintro e_ w2 ⟨rfl, hb⟩; have HB2 := Aside0.mk (below_then (HB1.out.alloc HB1.out.size (.cells #[.int .i64 0, .int .i64 1, .int .i64 2] 2)) (HB1.out.alloc HB1.out.size _).size hb); clear hb)
    | (go_at_call 14; refine (valueRun_any has val A0 c0 l _ ?sc HOP.out HL20.out).mono ?_; (case sc => exact Kd.C_below HC.out HB3.out); rintro e_ w4 ⟨A4, c4, rfl, hc, hC4, hb⟩; rw [HO.out] at hc hC4 ⊢; have HAV := Aside0.mk (AV_start hC4 hc); have HB4 := Aside0.mk (below_then HB3.out HB3.out.size hb); clear hc hC4 hb))
  have HB5 := Aside0.mk (HB4.out.alloc HB4.out.size (.cells #[.slice A4 (ansV l o).length c4, .bool true] 32))
  go_loopg [0, 1, 35] l.length (fun kq v0 v1 v35 w' => ∃ (k : Nat) (cur : Option Int) (vv : Int), k ≤ l.length ∧ Aside0 (kq = l.length - k) ∧ v0 = .bool cur.isSome ∧ v1 = .int .i64 vv ∧ Aside0 (cur.isSome = true → vv = optN cur) ∧ v35 = .int .i64 k ∧ Aside0 (AV w4 w' w4.heap.size (ansV (l.drop k) cur)) ∧ Aside0 (Below w.heap.size w w'))
  case atStart => exact ⟨0, o, val, Nat.zero_le _, ⟨by simp⟩, by rw [HHO.out], rfl, HVO, rfl, HAV, HB5⟩
  case round =>
    clear HAV HB5 HHO HVO HO
    obtain ⟨k, cur, vv, hk, hq, rfl, rfl, HV, rfl, HAV, HB⟩ := hrel
    have q1 : (l.length : Int) ≤ 1000 := by have := HL20.out; omega
    by_cases hlt : k < l.length
    · obtain ⟨ad, ea, x0, x1, x2, x3, x4⟩ := atP HC.out k hlt
      subst ea
      replace x0 := (HB.out.cell (World.block_lt_of_cell? w _ x0)).trans x0
      replace x1 := (HB.out.cell (World.block_lt_of_cell? w _ x1)).trans x1
      replace x2 := (HB.out.cell (World.block_lt_of_cell? w _ x2)).trans x2
      replace x3 := (HB.out.cell (World.block_lt_of_cell? w _ x3)).trans x3
      replace x4 := (HB.out.cell (World.block_lt_of_cell? w _ x4)).trans x4
      have HO := Aside0.mk (HOP.out k hlt)
      have HD := Aside0.mk (drop_rdP l k hlt)
      have HXL := Aside0.mk (show (ansV (l.drop (k + 1)) cur).length ≤ 1000000 by have h := ansV_len (l.drop (k + 1)) cur; have := HL20.out; rw [List.length_drop] at h; omega)
      generalize hx : rdP l k = x at x0 x1 x2 x3 x4 HO HD
      clear hx
      obtain ⟨s0, s1, s2, s3, s4⟩ := x
      simp only at x0 x1 x2 x3 x4
      have NX := Aside0.mk (heap_alloc_new wr (.cells #[.int .i64 s0, .string s1, .int .i64 s2, .int .i64 s3, .int .i64 s4] 26))
      have HAV := Aside0.mk (HAV.out.below (below_alloc (Below.refl _ _) (.cells #[.int .i64 s0, .string s1, .int .i64 s2, .int .i64 s3, .int .i64 s4] 26)))
      have HB := Aside0.mk (HB.out.alloc HB.out.size (.cells #[.int .i64 s0, .string s1, .int .i64 s2, .int .i64 s3, .int .i64 s4] 26))
      rcases HO.out with e0 | e0 | e0
      · have t0 : (s0 == 0) = true := beq_iff_eq.2 e0
        have HA2 := Aside0.mk (show AV w4 (wr.alloc (.cells #[.int .i64 s0, .string s1, .int .i64 s2, .int .i64 s3, .int .i64 s4] 26)) w4.heap.size (ansV (l.drop (k + 1)) (some s2)) by have h := HAV.out; rw [HD.out] at h; simp only [ansV] at h; rw [if_pos (by exact e0)] at h; exact h)
        clear e0
        go_wp2
        repeat (go_quiet (fail); try go_wp2)
        go_roundg (l.length - (k + 1))
        case measure => have := hq.out; omega
        case rel => exact ⟨k + 1, some s2, s2, by omega, ⟨rfl⟩, rfl, rfl, ⟨fun _ => rfl⟩, by go_num, ⟨HA2.out.below (by repeat (first | exact Below.refl _ _ | apply below_drew | apply pw_below_drewN))⟩, ⟨by repeat (first | exact HB.out | apply below_drew | apply pw_below_drewN)⟩⟩
      · have t0 : (s0 == 0) = false := beq_eq_false_iff_ne.2 (by simp only at e0; omega)
        have t1 : (s0 == 1) = true := beq_iff_eq.2 e0
        have HA2 := Aside0.mk (show AV w4 (wr.alloc (.cells #[.int .i64 s0, .string s1, .int .i64 s2, .int .i64 s3, .int .i64 s4] 26)) w4.heap.size (ansV (l.drop (k + 1)) none) by have h := HAV.out; rw [HD.out] at h; simp only [ansV] at h; rw [if_neg (by simp only at e0 ⊢; omega), if_pos (by exact e0)] at h; exact h)
        clear e0
        go_wp2
        go_roundg (l.length - (k + 1))
        case measure => have := hq.out; omega
        case rel => exact ⟨k + 1, none, vv, by omega, ⟨rfl⟩, rfl, rfl, ⟨fun h => by cases h⟩, by go_num, HA2, HB⟩
      · have t0 : (s0 == 0) = false := beq_eq_false_iff_ne.2 (by simp only at e0; omega)
        have t1 : (s0 == 1) = false := beq_eq_false_iff_ne.2 (by simp only at e0; omega)
        have HA2 := Aside0.mk (show AV w4 (wr.alloc (.cells #[.int .i64 s0, .string s1, .int .i64 s2, .int .i64 s3, .int .i64 s4] 26)) w4.heap.size (⟨cur.isSome, [optN cur], [], []⟩ :: ansV (l.drop (k + 1)) cur) by have h := HAV.out; rw [HD.out] at h; simp only [ansV] at h; rw [if_neg (by simp only at e0 ⊢; omega), if_neg (by simp only at e0 ⊢; omega)] at h; exact h)
        clear e0
        cases cur with
        | none =>
          go_wp2_with (first
            | (go_at_call 15; refine (next_any w4 _ _ _ _ HA2.out HXL.out).mono ?_; rintro e_ w5 ⟨A1, c1, A2, c2, A3, c3, rfl, _, _, _, hav⟩; have HA5 := Aside0.mk hav; clear hav)
            | (go_at_call 16; refine (check_any w4 _ _ _ (HA5.out.below (below_alloc (Below.refl w5.heap.size w5) _))).mono ?_; rintro e_ w6 ⟨rfl, hav⟩; have HA6 := Aside0.mk hav; have HB6 := Aside0.mk (hav.bw HB4.out); clear hav))
          go_roundg (l.length - (k + 1))
          case measure => have := hq.out; omega
          case rel => exact ⟨k + 1, none, vv, by omega, ⟨rfl⟩, rfl, rfl, ⟨fun h => by cases h⟩, by go_num, HA6, HB6⟩
        | some n =>
          obtain rfl : vv = n := HV.out rfl
          go_wp2_with (first
            | (go_at_call 15; refine (next_any w4 _ _ _ _ HA2.out HXL.out).mono ?_; rintro e_ w5 ⟨A1, c1, A2, c2, A3, c3, rfl, ⟨q1, g1⟩, _, _, hav⟩; have HA5 := Aside0.mk hav; have G1 := Aside0.mk g1; have Q1 := Aside0.mk q1; clear q1 g1 hav)
            | (go_at_call 17; refine (same_eq [vv] A1 c1 _ 1 _ ?sa Q1.out ?sb (Nat.le_refl 1) (show 1 ≤ 2147483647 by decide)).mono ?_; (case sa => exact Kd.C_below G1.out ((HA5.out.below (below_alloc (below_alloc (Below.refl w5.heap.size w5) _) _)).w1)); (case sb => exact C_int_lit (new2' w5 _ _) rfl (show 1 ≤ 1000 by decide)); rintro e_ w7 ⟨rfl, hb⟩; have HA7 := Aside0.mk ((HA5.out.below (below_alloc (below_alloc (Below.refl w5.heap.size w5) _) _)).below hb); clear hb)
            | (go_at_call 16; refine (check_any w4 _ _ _ HA7.out).mono ?_; rintro e_ w6 ⟨rfl, hav⟩; have HA6 := Aside0.mk hav; have HB6 := Aside0.mk (hav.bw HB4.out); clear hav))
          go_roundg (l.length - (k + 1))
          case measure => have := hq.out; omega
          case rel => exact ⟨k + 1, some vv, vv, by omega, ⟨rfl⟩, rfl, rfl, ⟨fun _ => rfl⟩, by go_num, HA6, HB6⟩
    · have hkl : k = l.length := by omega
      subst hkl
      rw [List.drop_length] at HAV
      go_wp2_with (first
        | (go_at_call 18; refine (end_any w4 _ _ HAV.out).mono ?_; rintro e_ w8 ⟨rfl, rfl⟩)
        | (go_at_call 13; refine (stateAwake_any _).mono ?_; rintro e_ w9 ⟨rfl, hb9⟩))
      go_ret
      exact ⟨rfl, below_then HB.out HB.out.size hb9⟩
end Go.Proofs.Ytoigekmdicepnaa
