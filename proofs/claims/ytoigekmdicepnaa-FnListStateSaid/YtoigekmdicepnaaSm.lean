/- Contract: the calls of a bag, and their answers. -/
import Derived.Test.YtoigekmdicepnaaSl
set_option linter.unusedVariables false
set_option linter.unusedSimpArgs false
namespace Go.Proofs.Ytoigekmdicepnaa
open Go.RowKit Go.Proofs.YtoigekmdicepnaaW.PrintWords Go.Proofs.YtoigekmdicepnaaW.PrintLast Go.Proofs.YtoigekmdicepnaaW.PrintMore
open PFnMapState (S26 k26 S36 k36 k26_open k36_mkM k36_open z26 z36)

theorem info20 : (Try.prog.info? 20).map (fun i => (i.zero, i.size, i.bytes)) = some (some .nilIface, 1, 16) := by kernel_rfl
section
variable {P : Program} {ops : Array Oper} {rest : List Oper} {o : Oper} {a : Act} {Q : Exit → Act → World → Prop} {α : Type}
/-- append(v, x) in a plain region: the new slice by its parts. -/
theorem R_append_s (d : Kd α) {w0 W : World} (base : Nat) (hgd : o.guard = none) (s x : Operand) (t e : TypeId) (z : Value) (bytes : Nat)
    (ho : o.op = .call { callee := .builtin .append, args := #[s, x], argTypes := #[t, t] })
    (ht : P.underlying t = some (.slice e)) (hinfo : (P.info? e).map (fun i => (i.zero, i.size, i.bytes)) = some (some z, d.sz, bytes)) (hz : z.cells.size = d.sz) (hs0 : 0 < d.sz) (hb0 : 0 < bytes)
    (v : Value) (xs : List α) (p : α) (cs : List Value) (ok okp : Nat → Prop) (hs : a.eval s = v) (hx : a.eval x = .slice (some ⟨W.heap.size, 0, none⟩) 1 1) (hp : d.M W base okp p cs) (hokp : ∀ k, okp k → ok k ∧ some k ≠ v.ownBlock) (hfresh : ∀ k, W.heap.size ≤ k → ok k)
    (HO : d.R e W base ok v xs) (HB : Below base w0 W) (hbase : base ≤ W.heap.size) (hl : (xs.length + 1) * bytes ≤ 140737488355328)
    (h : ∀ A c w1, d.R e w1 base ok (.slice A (xs.length + 1) c) (xs ++ [p]) → Below base w0 w1 → W.grownBy w1 v.ownBlock → wpList P ops Q rest (a.put o.dst (.slice A (xs.length + 1) c)) w1) : wpList P ops Q (o :: rest) a (W.alloc (.cells cs.toArray e)) := by
  refine Kd.R_append d (w0 := w0) base hgd s x t e z bytes ho ht hinfo hz hs0 hb0 v xs p cs ok okp hs hx hp hokp hfresh HO HB hbase hl (fun v1 w1 h1 h2 h3 _ => ?_)
  obtain ⟨A, c, hv⟩ := Kd.R_slice h1
  rw [List.length_append, List.length_singleton] at hv
  subst hv
  exact h A c w1 h1 h2 h3
/-- append(v, ys..) of numbers in a plain region: the new slice by its parts. -/
theorem R_append_ints {w0 W : World} (base : Nat) (hgd : o.guard = none) (s x : Operand) (t : TypeId)
    (ho : o.op = .call { callee := .builtin .append, args := #[s, x], argTypes := #[t, t] })
    (ht : P.underlying t = some (.slice 2)) (hinfo : (P.info? 2).map (fun i => (i.zero, i.size, i.bytes)) = some (some (.int .i64 0), 1, 8))
    (v : Value) (xs ys : List Int) (A : Option Addr) (m c : Nat) (hs : a.eval s = v) (hx : a.eval x = .slice A m c)
    (HO : (Kd.int .i64).R 2 W base (fun _ => True) v xs) (HR : (Kd.int .i64).C W A m ys) (HB : Below base w0 W) (hbase : base ≤ W.heap.size) (hl : (xs.length + m) * 8 ≤ 140737488355328)
    (h : ∀ A1 c1 w1, (Kd.int .i64).R 2 w1 base (fun _ => True) (.slice A1 (xs ++ ys).length c1) (xs ++ ys) → Below base w0 w1 → W.grownBy w1 v.ownBlock → wpList P ops Q rest (a.put o.dst (.slice A1 (xs ++ ys).length c1)) w1) : wpList P ops Q (o :: rest) a W := by
  refine Kd.R_append_rows (Kd.int .i64) (Rr := (Kd.int .i64).K W) (w0 := w0) base hgd s x t 2 _ 8 ho ht hinfo rfl (by decide) (by decide) v xs ys A m c (fun _ => True) (fun _ => False) hs hx HO HR (fun _ _ q => q) (fun _ q => q.elim) (fun _ _ => trivial) HB hbase hl (fun v1 w1 h1 h2 h3 _ => ?_)
  obtain ⟨A1, c1, hv⟩ := Kd.R_slice h1
  subst hv
  exact h A1 c1 w1 h1 h2 h3
end
theorem below_none {W w1 : World} (h : W.grownBy w1 none) : Below W.heap.size W w1 := ⟨h.os, h.tape, h.output, h.size, fun i hi => h.block i hi (by simp)⟩
theorem R_apartT {α β : Type} {d : Kd α} {d' : Kd β} {e e' base base' : Nat} {W : World} {ok ok' : Nat → Prop} {v v' : Value} {xs : List α} {ys : List β} (h : d.R e W base ok v xs) (h' : d'.R e' W base' ok' v' ys) (hne : e ≠ e') : ∀ k, v.ownBlock = some k → True ∧ some k ≠ v'.ownBlock := fun k hk => ⟨trivial, fun q => by
  obtain ⟨c1, h1⟩ := Kd.R_typed h k hk
  obtain ⟨c2, h2⟩ := Kd.R_typed h' k q.symm
  rw [h1] at h2; injection h2 with h2; injection h2 with _ h2; exact hne h2⟩
/-- The answers of a bag's calls. -/
def ansB : List S26 → List Int → List S36
  | [], _ => []
  | s :: l, cur => if s.f0 = 0 then ansB l (cur ++ [s.f2]) else if s.f0 = 1 then ansB l [] else ⟨decide (0 < cur.length), cur, [], []⟩ :: ansB l cur
theorem ansB_len : ∀ (l : List S26) (cur : List Int), (ansB l cur).length ≤ l.length
  | [], _ => Nat.le_refl _
  | s :: l, cur => by
    unfold ansB
    split
    · exact Nat.le_succ_of_le (ansB_len l _)
    · split
      · exact Nat.le_succ_of_le (ansB_len l _)
      · exact Nat.succ_le_succ (ansB_len l _)
theorem mkB_any (s : ByteArray) (w : World) : Calls Try.prog 58 #[.string s] w fun e w' => e = .returned (.agg #[.string s]) ∧ Below w.heap.size w w' := by
  go_enter Try.func58, Try.ntmps58
  go_wp2
  go_returns
  exact ⟨rfl, by repeat (first | exact Below.refl _ _ | apply below_alloc | apply below_drew | refine below_set ?_ (by simp) | (refine Below.setCell ?_ (by simp) _))⟩
theorem Tr_snoc {Pp : Tr → Prop} {trs : List Tr} {t : Tr} (h : ∀ j, j < trs.length → Pp (rdTr trs j)) (ht : Pp t) : ∀ j, j < (trs ++ [t]).length → Pp (rdTr (trs ++ [t]) j) := fun j hj => by
  by_cases hlt : j < trs.length
  · have e : rdTr (trs ++ [t]) j = rdTr trs j := by simp [rdTr, List.getD_eq_getElem?_getD, List.getElem?_append_left hlt]
    rw [e]; exact h j hlt
  · have e : rdTr (trs ++ [t]) j = t := by
      have : j = trs.length := by simp at hj; omega
      subst this; simp [rdTr, List.getD_eq_getElem?_getD]
    rw [e]; exact ht
theorem atI {w : World} {A : Option Addr} {xs : List Int} (h : Kd.C (Kd.int .i64) w A xs.length xs) (i : Nat) (h1 : i < xs.length) : ∃ ad, A = some ad ∧ w.cell? (ad.add i) = some (.int .i64 (rdI xs i)) := by
  obtain ⟨ad, c, e, _, hK, hc0⟩ := Kd.C_get h 0 (i : Int) (by omega) (by omega)
  have hc : ∀ j u, c[j]? = some u → w.cell? (ad.add (i * 1 + j)) = some u := hc0
  obtain rfl : c = [.int .i64 (rdI xs i)] := hK
  exact ⟨ad, e, by have := hc 0 _ rfl; simpa using this⟩

set_option maxRecDepth 100000 in
set_option maxHeartbeats 8000000 in
theorem bagRun_any (A0 : Option Addr) (c0 : Nat) (vals : List Int) (A1 : Option Addr) (c1 : Nat) (l : List S26) (w : World) (hV : (Kd.int .i64).C w A0 vals.length vals) (hC : Kd.C k26 w A1 l.length l) (hop : ∀ k, k < l.length → opV (rdP l k)) (hl : l.length ≤ 1000) (hvl : vals.length ≤ 1000) :
    Calls Try.prog 24 #[.slice A0 vals.length c0, .slice A1 l.length c1] w fun e w' => ∃ v, e = .returned v ∧ Kd.R k36 36 w' w.heap.size (fun _ => True) v (ansB l vals) ∧ Below w.heap.size w w' := by
  have HV := Aside0.mk hV
  have HC := Aside0.mk hC
  have HOP := Aside0.mk hop
  have HL := Aside0.mk hl
  have HVL := Aside0.mk hvl
  have HG0 := Aside0.mk (heap_alloc_new w (.cells #[.nilIface, .slice none 0 0, .slice none 0 0, .map none, .slice none 0 0, .slice none 0 0] 99))
  have HB0 := Aside0.mk (below_alloc (Below.refl w.heap.size w) (.cells #[.nilIface, .slice none 0 0, .slice none 0 0, .map none, .slice none 0 0, .slice none 0 0] 99))
  clear hV hC hop hl hvl
  go_enter Try.func24, Try.ntmps24
  go_wp2
  go_loopg [19] vals.length (fun kq v19 w' => ∃ (i : Nat) (bv : Value), i ≤ vals.length ∧ Aside0 (kq = vals.length - i) ∧ v19 = .int .i64 i ∧ Aside0 (w'.heap[w.heap.size]? = some (.cells #[.nilIface, bv, .slice none 0 0, .map none, .slice none 0 0, .slice none 0 0] 99 (0, 0))) ∧ Aside0 (Kd.R kAv 20 w' w.heap.size (fun _ => True) bv ((vals.take i).map Av.int)) ∧ Aside0 (Below w.heap.size w w'))
  case atStart => exact ⟨0, _, Nat.zero_le _, ⟨by simp⟩, rfl, HG0, ⟨by rw [List.take_zero]; exact Kd.R_nil _ _ _ _ _⟩, HB0⟩
  case round =>
    clear HG0 HB0
    obtain ⟨i, bv, hi, hq, rfl, HG, HBG, HBW⟩ := hrel
    have q1 : (vals.length : Int) ≤ 1000 := by have := HVL.out; omega
    by_cases hlt : i < vals.length
    · obtain ⟨ad, ea, x0⟩ := atI HV.out i hlt
      subst ea
      replace x0 := (HBW.out.cell (World.block_lt_of_cell? w _ x0)).trans x0
      have HTS := Aside0.mk (show (vals.take (i + 1)).map Av.int = (vals.take i).map Av.int ++ [Av.int (rdI vals i)] by rw [takeI_succ vals i hlt, List.map_append]; rfl)
      generalize rdI vals i = n at x0 HTS
      have y1 := (blk_cell HG.out 1).trans (rfl : _ = some bv)
      have HLN := Aside0.mk (show (((vals.take i).map Av.int).length + 1) * 16 ≤ 140737488355328 by have := HVL.out; rw [List.length_map, List.length_take]; omega)
      have HLE := Aside0.mk (show ((vals.take i).map Av.int).length = i by rw [List.length_map, List.length_take]; omega)
      go_wp2_with ((with_reducible refine gate_builtin (b := .append) (xs := #[.tmp 27, .tmp 30]) rfl ?_); at_builtin; refine R_append_s kAv (w0 := w) (W := wr) w.heap.size rfl (.tmp 27) (.tmp 30) 95 20 _ 16 rfl Try.underlying95 info20 rfl (by decide) (by decide) _ _ (Av.int n) [.iface 2 (.int .i64 n)] (fun _ => True) (fun _ => False) rfl ?aX rfl (fun _ hk => hk.elim) (fun _ _ => trivial) HBG.out HBW.out HBW.out.size HLN.out ?_; (case aX => first | (go_simp; done) | (go_simp; rfl)); intro A9 c9 w5 hR1 hB1 hg1; rw [HLE.out] at hR1 ⊢; have hG1 := blk_grown HG.out hg1 (Kd.R_ne HBG.out HG.out (show (20 : Nat) ≠ 99 by decide)); have s1 := (blk_cell hG1 1).trans (rfl : _ = some bv); have f1 := blk_frozen hG1 1; have HG := Aside0.mk (blk_set hG1 1 (.slice A9 (i + 1) c9)); have HBG := Aside0.mk (Kd.R_set hR1 hG1 (by decide) 1 (.slice A9 (i + 1) c9)); have HBW := Aside0.mk (hB1.setCell (p := ⟨w.heap.size, 1, none⟩) (Nat.le_refl _) (.slice A9 (i + 1) c9)); clear hR1 hB1 hg1 hG1)
      go_roundg (vals.length - (i + 1))
      case measure => have := hq.out; omega
      case rel => exact ⟨i + 1, _, by omega, ⟨rfl⟩, by go_num, HG, ⟨by rw [HTS.out]; exact HBG.out⟩, HBW⟩
    · have hkl : i = vals.length := by omega
      subst hkl
      rw [List.take_length] at HBG
      obtain ⟨Ab, cb, hbv⟩ := Kd.R_slice HBG.out
      rw [List.length_map] at hbv
      subst hbv
      have HW := Aside0.mk (show WV wr w.heap.size w.heap.size ⟨.nilIface, .slice Ab vals.length cb, .slice none 0 0, .map none, .slice none 0 0⟩ [] from ⟨_, HG.out, Kd.R_nil _ _ _ _ _, Nat.le_refl _⟩)
      have HB := HBW
      clear HG HBW hq hlt hi
      go_wp2_with (go_at_call 58; refine (mkB_any _ _).mono ?_; rintro e_ w2 ⟨rfl, hb⟩; have HW := Aside0.mk (HW.out.below hb); have HBG := Aside0.mk (Kd.R_below HBG.out hb); have HB := Aside0.mk (below_then HB.out HB.out.size hb); clear hb)
      have B8 := Aside0.mk (heap_alloc_new w2 (.cells #[.string ⟨#[98]⟩] 126))
      have HW := Aside0.mk (HW.out.below (below_alloc (Below.refl _ _) (.cells #[.string ⟨#[98]⟩] 126)))
      have HBG := Aside0.mk (Kd.R_below HBG.out (below_alloc (Below.refl _ _) (.cells #[.string ⟨#[98]⟩] 126)))
      have HB := Aside0.mk (HB.out.alloc HB.out.size (.cells #[.string ⟨#[98]⟩] 126))
      obtain ⟨n8, hn8⟩ : ∃ n, n = w2.heap.size := ⟨_, rfl⟩
      rw [← hn8] at B8 ⊢
      clear hn8
      go_loopg [9, 38] l.length (fun kq v9 v38 w' => ∃ (k : Nat) (acc : List S36) (cur : List Int) (trs : List Tr), k ≤ l.length ∧ Aside0 (kq = l.length - k) ∧ v38 = .int .i64 k ∧ Aside0 (Kd.R k36 36 w' w.heap.size (fun _ => True) v9 acc) ∧ Aside0 (WV w' w.heap.size w.heap.size ⟨.nilIface, .slice Ab vals.length cb, .slice none 0 0, .map none, .slice none 0 0⟩ trs) ∧ Aside0 (acc ++ ansB (l.drop k) cur = ansB l vals ∧ foldB vals trs = cur ∧ (∀ j, j < trs.length → TrB (rdTr trs j)) ∧ trs.length ≤ k ∧ acc.length ≤ k) ∧ Aside0 (w'.heap[n8]? = some (.cells #[.string ⟨#[98]⟩] 126 (0, 0))) ∧ Aside0 (Kd.R kAv 20 w' w.heap.size (fun _ => True) (.slice Ab vals.length cb) (vals.map Av.int)) ∧ Aside0 (Below w.heap.size w w'))
      case atStart => exact ⟨0, [], vals, [], Nat.zero_le _, ⟨by simp⟩, rfl, ⟨Kd.R_nil _ _ _ _ _⟩, HW, ⟨by simp, rfl, by simp, Nat.le_refl _, Nat.le_refl _⟩, B8, HBG, HB⟩
      case round =>
        clear HW HB B8 HBG
        obtain ⟨k, acc, cur, trs, hk, hq, rfl, HR, HW, HA, B8, HBG, HB⟩ := hrel
        have q1 : (l.length : Int) ≤ 1000 := by have := HL.out; omega
        by_cases hlt : k < l.length
        · obtain ⟨ad, ea, x0, x1, x2, x3, x4⟩ := atP HC.out k hlt
          subst ea
          replace x0 := (HB.out.cell (World.block_lt_of_cell? w _ x0)).trans x0
          replace x1 := (HB.out.cell (World.block_lt_of_cell? w _ x1)).trans x1
          replace x2 := (HB.out.cell (World.block_lt_of_cell? w _ x2)).trans x2
          replace x3 := (HB.out.cell (World.block_lt_of_cell? w _ x3)).trans x3
          replace x4 := (HB.out.cell (World.block_lt_of_cell? w _ x4)).trans x4
          have HO := Aside0.mk (HOP.out k hlt)
          have HD := Aside0.mk (drop_rdP l k hlt)
          generalize hx : rdP l k = x at x0 x1 x2 x3 x4 HO HD
          clear hx
          obtain ⟨s0, s1, s2, s3, s4⟩ := x
          simp only at x0 x1 x2 x3 x4
          have B8 := Aside0.mk (blk_below B8.out (below_alloc (Below.refl wr.heap.size wr) (.cells #[.int .i64 s0, .string s1, .int .i64 s2, .int .i64 s3, .int .i64 s4] 26)))
          have HW := Aside0.mk (HW.out.below (below_alloc (Below.refl wr.heap.size wr) (.cells #[.int .i64 s0, .string s1, .int .i64 s2, .int .i64 s3, .int .i64 s4] 26)))
          have HR := Aside0.mk (Kd.R_below HR.out (below_alloc (Below.refl wr.heap.size wr) (.cells #[.int .i64 s0, .string s1, .int .i64 s2, .int .i64 s3, .int .i64 s4] 26)))
          have HBG := Aside0.mk (Kd.R_below HBG.out (below_alloc (Below.refl wr.heap.size wr) (.cells #[.int .i64 s0, .string s1, .int .i64 s2, .int .i64 s3, .int .i64 s4] 26)))
          have HB := Aside0.mk (below_then HB.out HB.out.size (below_alloc (Below.refl wr.heap.size wr) (.cells #[.int .i64 s0, .string s1, .int .i64 s2, .int .i64 s3, .int .i64 s4] 26)))
          have HTL := Aside0.mk (show trs.length ≤ 1000000 by have := HA.out.2.2.2.1; have := HL.out; omega)
          have HTL2 := Aside0.mk (show trs.length ≤ 1000000000 by have := HTL.out; omega)
          have HAL := Aside0.mk (show (acc.length + 1) * 80 ≤ 140737488355328 by have := HA.out.2.2.2.2; have := HL.out; omega)
          have HCL := Aside0.mk (show (0 + cur.length) * 8 ≤ 140737488355328 by have h := foldB_len vals trs; rw [HA.out.2.1] at h; have := HTL.out; have := HVL.out; omega)
          rcases HO.out with e0 | e0 | e0
          · have t0 : (s0 == 0) = true := beq_iff_eq.2 e0
            have HA2 := Aside0.mk (show acc ++ ansB (l.drop (k + 1)) (cur ++ [s2]) = ansB l vals by have h := HA.out.1; rw [HD.out] at h; simp only [ansB] at h; rw [if_pos (by exact e0)] at h; exact h)
            clear e0
            go_wp2_with (go_at_call 59; refine (bagAdd_any n8 w.heap.size w.heap.size _ trs _ s2 w _ B8.out HW.out HB.out HTL2.out).mono ?_; rintro e_ w3 ⟨rfl, h1, h2, h3⟩; have B8 := Aside0.mk (h2.blk B8.out (by decide) (by decide)); have HR := Aside0.mk (h2.R HR.out (by decide)); have HBG := Aside0.mk (h2.R HBG.out (by decide)); have HB := Aside0.mk h3; have HW := Aside0.mk h1; clear h1 h2 h3)
            go_roundg (l.length - (k + 1))
            case measure => have := hq.out; omega
            case rel => exact ⟨k + 1, acc, _, _, by omega, ⟨rfl⟩, by go_num, HR, HW, ⟨HA2.out, by rw [foldB_snoc, HA.out.2.1]; rfl, Tr_snoc HA.out.2.2.1 (.inl ⟨_, _, rfl⟩), by have := HA.out.2.2.2.1; simp; omega, by have := HA.out.2.2.2.2; omega⟩, B8, HBG, HB⟩
          · have t0 : (s0 == 0) = false := beq_eq_false_iff_ne.2 (by simp only at e0; omega)
            have t1 : (s0 == 1) = true := beq_iff_eq.2 e0
            have HA2 := Aside0.mk (show acc ++ ansB (l.drop (k + 1)) [] = ansB l vals by have h := HA.out.1; rw [HD.out] at h; simp only [ansB] at h; rw [if_neg (by simp only at e0 ⊢; omega), if_pos (by exact e0)] at h; exact h)
            clear e0
            go_wp2_with (go_at_call 60; refine (bagClear_any n8 w.heap.size w.heap.size _ trs _ w _ B8.out HW.out HB.out HTL2.out).mono ?_; rintro e_ w3 ⟨rfl, h1, h2, h3⟩; have B8 := Aside0.mk (h2.blk B8.out (by decide) (by decide)); have HR := Aside0.mk (h2.R HR.out (by decide)); have HBG := Aside0.mk (h2.R HBG.out (by decide)); have HB := Aside0.mk h3; have HW := Aside0.mk h1; clear h1 h2 h3)
            go_roundg (l.length - (k + 1))
            case measure => have := hq.out; omega
            case rel => exact ⟨k + 1, acc, [], _, by omega, ⟨rfl⟩, by go_num, HR, HW, ⟨HA2.out, by rw [foldB_snoc]; rfl, Tr_snoc HA.out.2.2.1 (.inr ⟨_, rfl⟩), by have := HA.out.2.2.2.1; simp; omega, by have := HA.out.2.2.2.2; omega⟩, B8, HBG, HB⟩
          · have t0 : (s0 == 0) = false := beq_eq_false_iff_ne.2 (by simp only at e0; omega)
            have t1 : (s0 == 1) = false := beq_eq_false_iff_ne.2 (by simp only at e0; omega)
            have t2 : (s0 == 2) = true := beq_iff_eq.2 e0
            have HA2 := Aside0.mk (show (acc ++ [⟨decide (0 < cur.length), cur, [], []⟩]) ++ ansB (l.drop (k + 1)) cur = ansB l vals by have h := HA.out.1; rw [HD.out] at h; simp only [ansB] at h; rw [if_neg (by simp only at e0 ⊢; omega), if_neg (by simp only at e0 ⊢; omega)] at h; rw [List.append_assoc]; exact h)
            clear e0
            have HRD := Aside0.mk (bagRead_any n8 w.heap.size w.heap.size .nilIface (.slice none 0 0) (.map none) (.slice none 0 0) Ab cb vals trs _ _ B8.out HW.out (by have h := (Kd.R_reads' HBG.out).2.2; rw [List.length_map] at h; exact h) HA.out.2.2.1 HTL.out (by have := HVL.out; omega))
            rw [HA.out.2.1] at HRD
            obtain ⟨hs, hhs⟩ : ∃ b, b = decide (0 < cur.length) := ⟨_, rfl⟩
            rw [← hhs] at HRD HA2
            clear hhs
            go_wp2_with (first
              | (go_at_call 61; refine (HRD.out).mono ?_; rintro e_ w3 ⟨A3, c3, rfl, hC3, hc3, hb⟩; have HC3 := Aside0.mk hC3; have B8 := Aside0.mk (blk_below B8.out (hb)); have HW := Aside0.mk (HW.out.below (hb)); have HR := Aside0.mk (Kd.R_below HR.out (hb)); have HBG := Aside0.mk (Kd.R_below HBG.out (hb)); have HB := Aside0.mk (below_then HB.out HB.out.size (hb)); clear hC3 hc3 hb)
              | ((with_reducible refine gate_builtin (b := .append) (xs := #[.const (.slice none 0 0), .tmp 67]) rfl ?_); at_builtin; refine R_append_ints (w0 := w) (W := w3) w.heap.size rfl (.const (.slice none 0 0)) (.tmp 67) 33 rfl Try.underlying33 info2 _ [] cur A3 cur.length c3 rfl rfl (Kd.R_nil _ _ _ _ _) HC3.out HB.out HB.out.size HCL.out ?_; intro A4 c4 w4 hR4 hB4 hg4; have hb := below_none hg4; have HR4 := Aside0.mk hR4; rw [List.nil_append] at HR4 ⊢; have B8 := Aside0.mk (blk_below B8.out (hb)); have HW := Aside0.mk (HW.out.below (hb)); have HR := Aside0.mk (Kd.R_below HR.out (hb)); have HBG := Aside0.mk (Kd.R_below HBG.out (hb)); have HB := Aside0.mk (below_then HB.out HB.out.size (hb)); clear hR4 hB4 hg4 hb)
              | ((with_reducible refine gate_builtin (b := .append) (xs := #[.tmp 65, .tmp 70]) rfl ?_); at_builtin; refine R_append_s k36 (w0 := w) (W := w4) w.heap.size rfl (.tmp 65) (.tmp 70) 29 36 _ 80 rfl Try.underlying29 info36 rfl (by decide) (by decide) _ acc ⟨hs, cur, [], []⟩ [.bool hs, .slice A4 cur.length c4, .slice none 0 0, .slice none 0 0] (fun _ => True) (fun q => (Value.slice A4 cur.length c4).ownBlock = some q) rfl ?aX ?aP (R_apartT HR4.out HR.out (by decide)) (fun _ _ => trivial) HR.out HB.out HB.out.size HAL.out ?_; (case aX => first | (go_simp; done) | (go_simp; rfl)); (case aP => exact k36_mkM _ _ _ ⟨hs, cur, [], []⟩ (Kd.R_flat (fun h => h) HR4.out (fun q hq _ => hq)) (Kd.R_nil _ _ _ _ _) (Kd.R_nil _ _ _ _ _)); intro A5 c5 w5 hR1 hB1 hg1; have HW := Aside0.mk (HW.out.grown HR.out hg1 (show (36 : Nat) ≠ 99 by decide) (show (172 : Nat) ≠ 36 by decide)); have B8 := Aside0.mk (blk_grown B8.out hg1 (Kd.R_ne HR.out B8.out (show (36 : Nat) ≠ 126 by decide))); have HBG := Aside0.mk (Kd.R_over' HBG.out (Kd.R_typed HR.out) (by decide) hg1); have HR := Aside0.mk hR1; have HB := Aside0.mk hB1; clear hR1 hB1 hg1))
            go_roundg (l.length - (k + 1))
            case measure => have := hq.out; omega
            case rel => exact ⟨k + 1, _, cur, trs, by omega, ⟨rfl⟩, by go_num, HR, HW, ⟨HA2.out, HA.out.2.1, HA.out.2.2.1, by have := HA.out.2.2.2.1; omega, by have := HA.out.2.2.2.2; simp; omega⟩, B8, HBG, HB⟩
        · have hkl : k = l.length := by omega
          subst hkl
          go_wp2
          go_ret
          have h := HA.out.1
          rw [List.drop_length] at h
          simp only [ansB, List.append_nil] at h
          exact ⟨_, rfl, by rw [← h]; exact HR.out, HB.out⟩
end Go.Proofs.Ytoigekmdicepnaa
