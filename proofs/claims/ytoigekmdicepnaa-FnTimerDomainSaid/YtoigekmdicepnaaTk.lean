/- The law of a timer's calls: what is told is what the reference tells. -/
import Derived.Test.YtoigekmdicepnaaTj
import Derived.Test.YtoigekmdicepnaaWEqStruct
set_option linter.unusedVariables false
set_option linter.unusedSimpArgs false
namespace Go.Proofs.Ytoigekmdicepnaa
open Go.RowKit Go.Proofs.YtoigekmdicepnaaW.PrintWords Go.Proofs.YtoigekmdicepnaaW.PrintLast Go.Proofs.YtoigekmdicepnaaW.PrintMore

theorem eqA48 (d : Nat) (w : World) (x0 y0 x1 y1 : ByteArray) (x2 y2 : Bool) (x3 y3 x4 y4 : Int) :
    (Op.equalIn (d + 2) 48 (.agg #[.string x0, .string x1, .bool x2, .int .i64 x3, .int .i64 x4]) (.agg #[.string y0, .string y1, .bool y2, .int .i64 y3, .int .i64 y4])).run Try.prog w = .ok (x0.toList == y0.toList && (x1.toList == y1.toList && (x2 == y2 && (x3 == y3 && (x4 == y4))))) w := by
  refine eqA_of Try.underlying48 (by kernel_rfl) ?_
  refine eqf_cons (by rfl) (by go_simp; rfl) (by go_simp; rfl) (by go_simp) ?_
  refine eqf_cons (by rfl) (by go_simp; rfl) (by go_simp; rfl) (by go_simp) ?_
  refine eqf_cons (by rfl) (by go_simp; rfl) (by go_simp; rfl) (by go_simp) ?_
  refine eqf_cons (by rfl) (by go_simp; rfl) (by go_simp; rfl) (by go_simp) ?_
  exact eqf_last (by rfl) (by go_simp; rfl) (by go_simp; rfl) (by go_simp)
theorem atTM {w : World} {A : Option Addr} {n : Nat} {xs : List TM} (h : Kd.C kTM w A n xs) (i : Nat) (h1 : i < n) : ∃ ad, A = some ad ∧ w.cell? (ad.add (i * 5)) = some (.string (rdTM xs i).f) ∧ w.cell? ⟨(ad.add (i * 5)).block, (ad.add (i * 5)).off + 1, none⟩ = some (.string (rdTM xs i).t) ∧ w.cell? ⟨(ad.add (i * 5)).block, (ad.add (i * 5)).off + 2, none⟩ = some (.bool (rdTM xs i).c) ∧ w.cell? ⟨(ad.add (i * 5)).block, (ad.add (i * 5)).off + 3, none⟩ = some (.int .i64 (rdTM xs i).fi) ∧ w.cell? ⟨(ad.add (i * 5)).block, (ad.add (i * 5)).off + 4, none⟩ = some (.int .i64 (rdTM xs i).ho) := by
  obtain ⟨ad, c, e, _, hK, hc0⟩ := Kd.C_get h zTM (i : Int) (by omega) (by omega)
  have hc : ∀ j u, c[j]? = some u → w.cell? (ad.add (i * 5 + j)) = some u := hc0
  obtain rfl := kTM_open hK
  exact ⟨ad, e, hc 0 _ rfl, by rw [← add_field _ _ 1 (by omega)]; exact hc 1 _ rfl, by rw [← add_field _ _ 2 (by omega)]; exact hc 2 _ rfl, by rw [← add_field _ _ 3 (by omega)]; exact hc 3 _ rfl, by rw [← add_field _ _ 4 (by omega)]; exact hc 4 _ rfl⟩
theorem rdTM_map (l : List S44) (i : Nat) (h : i < l.length) : rdTM (l.map stepOf) i = stepOf (rdS l i) := by
  simp [rdTM, rdS, List.getD_eq_getElem?_getD, h]
theorem cut_spec (t : Int) : PFnTimerRun.spec_TimerCut.f t = some (cutT t) := by
  unfold PFnTimerRun.spec_TimerCut.f cutT mn mx
  congr 1
  split <;> split <;> (try split) <;> (try split) <;> omega
theorem timerMap_some (x : S44) (h : okS x) : PFnTimerRun.laws_timerMap.f 1 x.f0 x.f1 x.f2 x.f3 x.f4 x.f5 x.f6 x.f7 = some ((stepOf x).f, (stepOf x).t, (stepOf x).c, (stepOf x).fi, (stepOf x).ho) := by
  obtain ⟨f0, f1, f2, f3, f4, f5, f6, f7⟩ := x
  obtain ⟨h1, h2⟩ := h
  simp only at h1 h2
  unfold PFnTimerRun.laws_timerMap.f stepOf
  rcases h1 with rfl | rfl | rfl
  · simp only [cut_spec, Option.bind_some, PFnTimerRun.laws_timerMap.j0]
    rcases h2 with rfl | rfl | rfl <;> cases f5 <;> simp [stepTM, cut_spec] <;> rfl
  · simp; rfl
  · simp
theorem fits5_some (l : List S44) : ∃ k r, PFnTimerRun.laws_zzFits5.f k l = some r ∧ (r = true → l.length ≤ 2147483647) := by
  by_cases hl : (l.length : Int) > 2147483647
  · exact ⟨0, false, by unfold PFnTimerRun.laws_zzFits5.f; rw [if_pos hl], fun h => by cases h⟩
  · have key : ∀ d i : Nat, d = l.length - i → i ≤ l.length → ∃ k r, PFnTimerRun.laws_zzFits5.l0 k l (l.length : Int) (i : Int) = some r := by
      intro d
      induction d with
      | zero =>
        intro i hd hi
        exact ⟨1, true, by simp only [PFnTimerRun.laws_zzFits5.l0]; rw [if_neg (by omega)]⟩
      | succ d ih =>
        intro i hd hi
        obtain ⟨k, r, hk⟩ := ih (i + 1) (by omega) (by omega)
        have hw : wrap64 ((i : Int) + 1) = ((i + 1 : Nat) : Int) := by unfold wrap64; omega
        obtain ⟨b, hb⟩ : ∃ b, PFnTimerRun.laws_zzFits6.f (PFnTimerRun.rd_T44 l i).f0 (PFnTimerRun.rd_T44 l i).f1 (PFnTimerRun.rd_T44 l i).f2 (PFnTimerRun.rd_T44 l i).f3 (PFnTimerRun.rd_T44 l i).f4 (PFnTimerRun.rd_T44 l i).f5 (PFnTimerRun.rd_T44 l i).f6 (PFnTimerRun.rd_T44 l i).f7 = some b := by
          unfold PFnTimerRun.laws_zzFits6.f
          split
          · exact ⟨_, rfl⟩
          · split <;> exact ⟨_, rfl⟩
        cases b
        · exact ⟨k + 1, false, by simp only [PFnTimerRun.laws_zzFits5.l0]; rw [if_pos (by omega), if_pos (by omega), if_pos (by omega), hb]; rfl⟩
        · exact ⟨k + 1, r, by simp only [PFnTimerRun.laws_zzFits5.l0]; rw [if_pos (by omega), if_pos (by omega), if_pos (by omega), hb, hw]; exact hk⟩
    obtain ⟨k, r, hk⟩ := key l.length 0 (by omega) (by omega)
    exact ⟨k, r, by unfold PFnTimerRun.laws_zzFits5.f; rw [if_neg hl]; exact hk, fun _ => by omega⟩
/-- A step that the law speaks of. -/
def goodS (x : S44) : Prop := ¬ x.f2 < 0 ∧ ¬ 2 < x.f2 ∧ ¬ x.f6 < 0 ∧ ¬ 2 < x.f6
theorem goodS_ok {x : S44} (h : goodS x) : okS x := by
  obtain ⟨h1, h2, h3, h4⟩ := h
  exact ⟨by omega, by omega⟩
theorem kS_lit (w : World) (x : S44) : Kd.C PFnTimerRun.k44 (w.alloc (.cells x.cells 44)) (some ⟨w.heap.size, 0, none⟩) 1 [x] := by
  have h := heap_alloc_new w (.cells x.cells 44)
  refine ⟨rfl, by decide, fun _ => ⟨⟨w.heap.size, 0, none⟩, rfl, fun j p hp => ?_⟩⟩
  have hj : j = 0 := by
    by_cases hj : j = 0
    · exact hj
    · rw [List.getElem?_eq_none (by simp; omega)] at hp; cases hp
  subst hj
  obtain rfl : x = p := by simpa using hp
  refine ⟨_, rfl, PFnTimerRun.k44_mk _ _, fun i u hu => ?_⟩
  rw [add_plain, blk_cell h]
  have e1 : (S44.cells x)[0 * PFnTimerRun.k44.sz + i]? = [Value.bool x.f0, .string x.f1, .int .i64 x.f2, .int .i64 x.f3, .string x.f4, .bool x.f5, .int .i64 x.f6, .int .i64 x.f7][i]? := by rw [Nat.zero_mul, Nat.zero_add]; unfold S44.cells; simp
  rw [e1]; exact hu
theorem timerRun_sl (A0 : Option Addr) (c0 : Nat) (l : List S44) (w : World) (hC : Kd.C PFnTimerRun.k44 w A0 l.length l) (hok : ∀ k, k < l.length → okS (rdS l k)) (hl : l.length ≤ 1000) :
    Calls Try.prog 21 #[.slice A0 l.length c0] w fun e w' => ∃ A c, e = .returned (.slice A l.length c) ∧ Kd.C kTM w' A l.length (l.map stepOf) ∧ Below w.heap.size w w' := by
  refine (timerRun_any A0 c0 l w hC hok hl).mono ?_
  rintro e w1 ⟨v, rfl, hR, hb⟩
  obtain ⟨A, c, rfl, _, hC⟩ := Kd.R_reads hR
  rw [List.length_map] at hC ⊢
  exact ⟨A, c, rfl, hC, hb⟩
set_option maxRecDepth 100000 in
set_option maxHeartbeats 1000000 in
theorem timerAwake_any (w : World) : Calls Try.prog 20 #[] w fun e w' => e = .returned (.bool true) ∧ Below w.heap.size w w' := by
  have HC := Aside0.mk (kS_lit w ⟨false, ⟨#[102]⟩, 0, 5, ByteArray.empty, false, 0, 0⟩)
  have HOK := Aside0.mk (show ∀ k, k < [(⟨false, ⟨#[102]⟩, 0, 5, ByteArray.empty, false, 0, 0⟩ : S44)].length → okS (rdS [⟨false, ⟨#[102]⟩, 0, 5, ByteArray.empty, false, 0, 0⟩] k) from fun k hk => by
    obtain rfl : k = 0 := by simpa using hk
    exact ⟨.inl rfl, .inl rfl⟩)
  have HF : (rdTM ([(⟨false, ⟨#[102]⟩, 0, 5, ByteArray.empty, false, 0, 0⟩ : S44)].map stepOf) 0).fi = 5 := by simp [rdTM, stepOf, stepTM, cutT]
  go_enter Try.func20, Try.ntmps20
  go_wp2_with (go_at_call 21; refine (timerRun_sl _ 1 [⟨false, ⟨#[102]⟩, 0, 5, ByteArray.empty, false, 0, 0⟩] _ HC.out HOK.out (by simp)).mono ?_; rintro e_ w1 ⟨A, c, rfl, hC, hb⟩; obtain ⟨ad, rfl, _, _, _, h3, _⟩ := atTM hC 0 (by simp); rw [HF] at h3; simp only [Nat.zero_mul] at h3; rw [Addr.add_zero'] at h3; have HB := Aside0.mk (below_then (below_alloc (Below.refl w.heap.size w) (.cells (S44.cells ⟨false, ⟨#[102]⟩, 0, 5, ByteArray.empty, false, 0, 0⟩) 44)) (by simp) hb); clear hC hb)
  go_ret
  exact ⟨rfl, HB.out⟩
end Go.Proofs.Ytoigekmdicepnaa
