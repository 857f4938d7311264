/- Contract: a bag that is read. -/
import Derived.Test.YtoigekmdicepnaaSk
set_option linter.unusedVariables false
set_option linter.unusedSimpArgs false
namespace Go.Proofs.Ytoigekmdicepnaa
open Go.RowKit Go.Proofs.YtoigekmdicepnaaW.PrintWords Go.Proofs.YtoigekmdicepnaaW.PrintLast Go.Proofs.YtoigekmdicepnaaW.PrintMore
open PFnMapState (S26 k26 S36 k36 k26_open k36_mkM k36_open z26 z36)

set_option maxRecDepth 100000 in
set_option maxHeartbeats 4000000 in
theorem bagRead_any (sb g base : Nat) (v1 k1 m1 l1 : Value) (Ab : Option Addr) (cb : Nat) (bag : List Int) (trs : List Tr) (k : ByteArray) (w : World) (hs : w.heap[sb]? = some (.cells #[.string k] 126 (0, 0))) (h : WV w g base ⟨v1, .slice Ab bag.length cb, k1, m1, l1⟩ trs) (hb : Kd.C kAv w Ab bag.length (bag.map Av.int)) (ht : ∀ j, j < trs.length → TrB (rdTr trs j)) (hl : trs.length ≤ 1000000) (hl2 : bag.length ≤ 1000000) :
    Calls Try.prog 61 #[.pointer (some ⟨sb, 0, none⟩), .iface 94 (.pointer (some ⟨g, 0, none⟩))] w fun e w' => ∃ A c, e = .returned (.tuple #[.slice A (foldB bag trs).length c, .bool (decide (0 < (foldB bag trs).length)), .nilIface]) ∧ (Kd.int .i64).C w' A (foldB bag trs).length (foldB bag trs) ∧ (foldB bag trs).length ≤ c ∧ Below w.heap.size w w' := by
  have hmf : ∀ (fn : Fn) (first cap : Array Value) (w : World), (Instr.makeFunc fn first cap).run Try.prog w = .ok (.func fn first cap) w := fun _ _ _ _ => rfl
  have hna := na_ReadBagState g
  have HS := Aside0.mk (blk_drew hs)
  have K0 := (blk_cell (blk_drew hs) 0).trans (rfl : _ = some (Value.string k))
  have HW := Aside0.mk (h.below (below_drew (Below.refl w.heap.size w)))
  have HB := Aside0.mk (below_drew (Below.refl w.heap.size w))
  have HL := Aside0.mk hl
  have HL2 := Aside0.mk hl2
  have HC0 := Aside0.mk hb
  have HT := Aside0.mk ht
  obtain ⟨out, hout⟩ : ∃ out, foldB bag trs = out := ⟨_, rfl⟩
  rw [hout]
  have HOUT := Aside0.mk hout
  clear h hl hs hb ht hl2 hout
  go_enter Try.func61, Try.ntmps61
  go_wp2_with fail
  go_region_held3 (fun z => z.cell? ⟨sb, 0, none⟩ = some (.string k)) (first | exact K | exact K0 | assumption)
    ((go_at_call 152; refine (rd152_any g base _ trs k _ HW.out).mono ?_; rintro e w2 ⟨A, c, rfl, hC, hc, hb⟩; have HC := Aside0.mk (Kd.C_below hC hb); have HB2 := Aside0.mk (below_then HB.out HB.out.size hb); have K := (blk_cell (blk_below HS.out hb) 0).trans (rfl : _ = some (Value.string k)); clear hC hc hb))
  go_wp2_with fail
  have HR := Aside0.mk (R_int0 w2 w2.heap.size (fun _ => True) (Nat.le_refl _) trivial)
  have HC0 := Aside0.mk (Kd.C_below HC0.out HB2.out)
  have HBB := Aside0.mk (below_alloc (Below.refl w2.heap.size w2) (.cells #[] 2))
  go_loopg [11, 36] bag.length (fun kq v11 v36 w' => ∃ i : Nat, i ≤ bag.length ∧ Aside0 (kq = bag.length - i) ∧ v36 = .int .i64 i ∧ Aside0 ((Kd.int .i64).R 2 w' w2.heap.size (fun _ => True) v11 (bag.take i)) ∧ Aside0 (Below w2.heap.size w2 w'))
  case atStart => exact ⟨0, Nat.zero_le _, ⟨by simp⟩, rfl, by rw [List.take_zero]; exact HR, HBB⟩
  case round =>
    clear HR HBB
    obtain ⟨i, hi, hq, rfl, HR, HBW⟩ := hrel
    have q1 : (bag.length : Int) ≤ 1000000 := by have := HL2.out; omega
    by_cases hlt : i < bag.length
    · obtain ⟨ad, ea, x0⟩ := atBag HC0.out i hlt
      subst ea
      replace x0 := (HBW.out.cell (World.block_lt_of_cell? w2 _ x0)).trans x0
      have HTS := Aside0.mk (takeI_succ bag i hlt)
      generalize rdI bag i = n at x0 HTS
      have hta := ta2 n
      have HLN := Aside0.mk (show ((bag.take i).length + 1) * 8 ≤ 140737488355328 by have := HL2.out; rw [List.length_take]; omega)
      go_wp2_with ((with_reducible refine gate_builtin (b := .append) (xs := #[.tmp 40, .tmp 43]) rfl ?_); at_builtin; refine Kd.R_append (Kd.int .i64) (w0 := w2) (W := wr) w2.heap.size rfl (.tmp 40) (.tmp 43) 33 2 _ 8 rfl Try.underlying33 info2 rfl (by decide) (by decide) _ _ n [.int .i64 n] (fun _ => True) (fun _ => False) rfl ?aX rfl (fun _ hk => hk.elim) (fun _ _ => trivial) HR.out HBW.out HBW.out.size HLN.out ?_; (case aX => first | (go_simp; done) | (go_simp; rfl)); skip; intro v1 w5 hR1 hB1 hg1 hat1; have HR := Aside0.mk hR1; have HBW := Aside0.mk hB1; clear hR1 hB1 hg1 hat1)
      go_roundg (bag.length - (i + 1))
      case measure => have := hq.out; omega
      case rel => exact ⟨i + 1, by omega, ⟨rfl⟩, by go_num, ⟨by rw [HTS.out]; exact HR.out⟩, HBW⟩
    · have hkl : i = bag.length := by omega
      subst hkl
      rw [List.take_length] at HR
      have HT0 := Aside0.mk (HT.out)
      go_wp2_with fail
      go_loopg [11, 48] trs.length (fun kq v11 v48 w' => ∃ i : Nat, i ≤ trs.length ∧ Aside0 (kq = trs.length - i) ∧ v48 = .int .i64 i ∧ Aside0 ((Kd.int .i64).R 2 w' w2.heap.size (fun _ => True) v11 (foldB bag (trs.take i))) ∧ Aside0 (Below w2.heap.size w2 w'))
      case atStart => exact ⟨0, Nat.zero_le _, ⟨by simp⟩, rfl, by rw [List.take_zero]; exact HR, HBW⟩
      case round =>
        clear HR HBW
        obtain ⟨i, hi2, hq2, rfl, HR, HBW⟩ := hrel
        have q2 : (trs.length : Int) ≤ 1000000 := by have := HL.out; omega
        by_cases hlt2 : i < trs.length
        · obtain ⟨ad, ea, x0, x1, x2, x3⟩ := atTr HC.out i hlt2
          subst ea
          replace x0 := (HBW.out.cell (World.block_lt_of_cell? w2 _ x0)).trans x0
          replace x1 := (HBW.out.cell (World.block_lt_of_cell? w2 _ x1)).trans x1
          replace x2 := (HBW.out.cell (World.block_lt_of_cell? w2 _ x2)).trans x2
          replace x3 := (HBW.out.cell (World.block_lt_of_cell? w2 _ x3)).trans x3
          have HTT := HT0.out i hlt2
          have HS7 := Aside0.mk (foldB_succ bag trs i hlt2)
          have HLN := Aside0.mk (show ((foldB bag (trs.take i)).length + 1) * 8 ≤ 140737488355328 by have h := foldB_len bag (trs.take i); have := HL.out; have := HL2.out; rw [List.length_take] at h; omega)
          generalize hx : rdTr trs i = x at x0 x1 x2 x3 HTT HS7
          clear hx
          rcases HTT with ⟨xk, n, rfl⟩ | ⟨xk, rfl⟩
          · simp only [Av.val] at x0 x1 x2 x3
            have hta := ta2 n
            have HRS := Aside0.mk (show foldB bag (trs.take (i + 1)) = foldB bag (trs.take i) ++ [n] by rw [HS7.out]; rfl)
            have HR := Aside0.mk (Kd.R_below HR.out (below_alloc (Below.refl wr.heap.size wr) (.cells #[.string xk, .int .i32 2, .nilIface, .iface 2 (.int .i64 n)] 172)))
            have HBW := Aside0.mk (HBW.out.alloc HBW.out.size (.cells #[.string xk, .int .i32 2, .nilIface, .iface 2 (.int .i64 n)] 172))
            go_wp2_with ((with_reducible refine gate_builtin (b := .append) (xs := #[.tmp 56, .tmp 60]) rfl ?_); at_builtin; refine Kd.R_append (Kd.int .i64) (w0 := w2) (W := (wr.alloc (.cells #[.string xk, .int .i32 2, .nilIface, .iface 2 (.int .i64 n)] 172))) w2.heap.size rfl (.tmp 56) (.tmp 60) 33 2 _ 8 rfl Try.underlying33 info2 rfl (by decide) (by decide) _ _ n [.int .i64 n] (fun _ => True) (fun _ => False) rfl ?aX rfl (fun _ hk => hk.elim) (fun _ _ => trivial) HR.out HBW.out HBW.out.size HLN.out ?_; (case aX => first | (go_simp; done) | (go_simp; rfl)); skip; intro v1 w5 hR1 hB1 hg1 hat1; have HR := Aside0.mk hR1; have HBW := Aside0.mk hB1; clear hR1 hB1 hg1 hat1)
            go_roundg (trs.length - (i + 1))
            case measure => have := hq2.out; omega
            case rel => exact ⟨i + 1, by omega, ⟨rfl⟩, by go_num, ⟨by rw [HRS.out]; exact HR.out⟩, HBW⟩
          · simp only [Av.val] at x0 x1 x2 x3
            have HRS := Aside0.mk (show foldB bag (trs.take (i + 1)) = [] by rw [HS7.out]; rfl)
            have HB4 := Aside0.mk (HBW.out.alloc HBW.out.size (.cells #[.string xk, .int .i32 1, .nilIface, .nilIface] 172))
            have HR4 := Aside0.mk (R_int0' (wr.alloc (.cells #[.string xk, .int .i32 1, .nilIface, .nilIface] 172)) w2.heap.size (fun _ => True) HB4.out.size trivial (wr.heap.size + 1) (by simp))
            go_wp2
            go_roundg (trs.length - (i + 1))
            case measure => have := hq2.out; omega
            case rel => exact ⟨i + 1, by omega, ⟨rfl⟩, by go_num, ⟨by rw [HRS.out]; exact HR4.out⟩, ⟨HB4.out.alloc HB4.out.size _⟩⟩
        · have hkl : i = trs.length := by omega
          subst hkl
          rw [List.take_length, HOUT.out] at HR
          obtain ⟨A9, c9, hv9, hc9, hC9⟩ := Kd.R_reads HR.out
          have HC9 := Aside0.mk hC9
          have HCC9 := Aside0.mk hc9
          clear hC9 hc9 HR
          subst hv9
          clear HOUT
          cases out with
          | nil =>
            go_wp2
            go_ret3
            exact ⟨_, _, rfl, HC9.out, HCC9.out, below_then HB2.out HB2.out.size HBW.out⟩
          | cons y ys =>
            have hz : ((((y :: ys).length : Nat) : Int) == 0) = false := beq_eq_false_iff_ne.2 (by simp; omega)
            have hz2 : (((ys.length : Nat) : Int) + 1 == 0) = false := beq_eq_false_iff_ne.2 (by omega)
            go_wp2
            go_ret3
            exact ⟨_, _, by rfl, HC9.out, HCC9.out, below_then HB2.out HB2.out.size HBW.out⟩
end Go.Proofs.Ytoigekmdicepnaa
