/- Contract: the calls of a value's state, and their answers. -/
import Derived.Test.YtoigekmdicepnaaSd
set_option linter.unusedVariables false
set_option linter.unusedSimpArgs false
namespace Go.Proofs.Ytoigekmdicepnaa
open Go.RowKit Go.Proofs.YtoigekmdicepnaaW.PrintWords Go.Proofs.YtoigekmdicepnaaW.PrintLast Go.Proofs.YtoigekmdicepnaaW.PrintMore
open PFnMapState (S26 k26 S36 k36 k26_open k36_mkM k36_open z26 z36)

def rdP (xs : List S26) (i : Nat) : S26 := xs.getD i z26
theorem atP {w : World} {A : Option Addr} {n : Nat} {xs : List S26} (h : Kd.C k26 w A n xs) (i : Nat) (h1 : i < n) : ∃ ad, A = some ad ∧ w.cell? (ad.add (i * 5)) = some (.int .i64 (rdP xs i).f0) ∧ w.cell? ⟨(ad.add (i * 5)).block, (ad.add (i * 5)).off + 1, none⟩ = some (.string (rdP xs i).f1) ∧ w.cell? ⟨(ad.add (i * 5)).block, (ad.add (i * 5)).off + 2, none⟩ = some (.int .i64 (rdP xs i).f2) ∧ w.cell? ⟨(ad.add (i * 5)).block, (ad.add (i * 5)).off + 3, none⟩ = some (.int .i64 (rdP xs i).f3) ∧ w.cell? ⟨(ad.add (i * 5)).block, (ad.add (i * 5)).off + 4, none⟩ = some (.int .i64 (rdP xs i).f4) := by
  obtain ⟨ad, c, e, _, hK, hc0⟩ := Kd.C_get h z26 (i : Int) (by omega) (by omega)
  have hc : ∀ j u, c[j]? = some u → w.cell? (ad.add (i * 5 + j)) = some u := hc0
  obtain rfl := k26_open hK
  exact ⟨ad, e, hc 0 _ rfl, by rw [← add_field _ _ 1 (by omega)]; exact hc 1 _ rfl, by rw [← add_field _ _ 2 (by omega)]; exact hc 2 _ rfl, by rw [← add_field _ _ 3 (by omega)]; exact hc 3 _ rfl, by rw [← add_field _ _ 4 (by omega)]; exact hc 4 _ rfl⟩
theorem drop_rdP (l : List S26) (k : Nat) (h : k < l.length) : l.drop k = rdP l k :: l.drop (k + 1) := by
  rw [List.drop_eq_getElem_cons h]; simp [rdP, List.getD_eq_getElem?_getD, h]
theorem info36 : (Try.prog.info? 36).map (fun i => (i.zero, i.size, i.bytes)) = some (some (.agg #[.bool false, .slice none 0 0, .slice none 0 0, .slice none 0 0]), 4, 80) := by kernel_rfl
/-- A literal row of numbers that the call makes. -/
theorem R_ints (W : World) (base : Nat) (ok : Nat → Prop) (n : Int) (hb : base ≤ W.heap.size) (hok : ok W.heap.size) : (Kd.int .i64).R 2 (W.alloc (.cells #[.int .i64 n] 2)) base ok (.slice (some ⟨W.heap.size, 0, none⟩) 1 1) [n] :=
  ⟨fun k hk => by have e : W.heap.size = k := by simpa [Value.ownBlock] using hk
                  subst e; exact hok, [.int .i64 n], World.ownsRow_lit (base := base) (e := 2) (size := 1) W #[.int .i64 n] 1 hb (by decide) rfl, by
    have := Reps.snoc (R := (Kd.int .i64).M (W.alloc (.cells #[.int .i64 n] 2)) base (fun k => ok k ∧ some k ≠ (Value.slice (some ⟨W.heap.size, 0, none⟩) 1 1).ownBlock)) (size := 1) (p := n) (c := [.int .i64 n]) (Reps.none _ _) rfl rfl
    exact this⟩
/-- The answers of a value's calls. -/
def ansV : List S26 → Option Int → List S36
  | [], _ => []
  | s :: l, cur => if s.f0 = 0 then ansV l (some s.f2) else if s.f0 = 1 then ansV l none else ⟨cur.isSome, [optN cur], [], []⟩ :: ansV l cur
def opV (s : S26) : Prop := s.f0 = 0 ∨ s.f0 = 1 ∨ s.f0 = 2
theorem mkV_any (s : ByteArray) (w : World) : Calls Try.prog 43 #[.string s] w fun e w' => e = .returned (.agg #[.string s]) ∧ Below w.heap.size w w' := by
  go_enter Try.func43, Try.ntmps43
  go_wp2
  go_returns
  exact ⟨rfl, by repeat (first | exact Below.refl _ _ | apply below_alloc | apply below_drew | refine below_set ?_ (by simp) | (refine Below.setCell ?_ (by simp) _))⟩
theorem WV_start (w : World) (p : Pv) : WV (w.alloc (.cells #[p.v, p.b, p.k, p.m, p.l, .slice none 0 0] 99)) w.heap.size w.heap.size p [] := ⟨_, heap_alloc_new w _, Kd.R_nil _ _ _ _ _, Nat.le_refl _⟩
theorem TrV_snoc {trs : List Tr} {t : Tr} (h : ∀ j, j < trs.length → TrV (rdTr trs j)) (ht : TrV t) : ∀ j, j < (trs ++ [t]).length → TrV (rdTr (trs ++ [t]) j) := fun j hj => by
  by_cases hlt : j < trs.length
  · have e : rdTr (trs ++ [t]) j = rdTr trs j := by simp [rdTr, List.getD_eq_getElem?_getD, List.getElem?_append_left hlt]
    rw [e]; exact h j hlt
  · have e : rdTr (trs ++ [t]) j = t := by
      have : j = trs.length := by simp at hj; omega
      subst this; simp [rdTr, List.getD_eq_getElem?_getD]
    rw [e]; exact ht
theorem WV.grown {α : Type} {d : Kd α} {e : Nat} {W w1 : World} {g base : Nat} {p : Pv} {trs : List Tr} {ok : Nat → Prop} {v : Value} {xs : List α} (h : WV W g base p trs) (hR : d.R e W base ok v xs) (hg : W.grownBy w1 v.ownBlock) (h1 : e ≠ 99) (h2 : 172 ≠ e) : WV w1 g base p trs := by
  obtain ⟨q, q1, q2, q3⟩ := h
  exact ⟨q, blk_grown q1 hg (Kd.R_ne hR q1 h1), Kd.R_over' q2 (Kd.R_typed hR) (fun x hx => by have e : x = 172 := (by simpa [kTr, kAv, Kd.iso, Kd.pair, Kd.string, Kd.bool, Kd.int, Kd.scalar] using hx); subst e; exact h2) hg, q3⟩
theorem R_new_ne {α : Type} {d : Kd α} {e : Nat} {w : World} {base : Nat} {ok : Nat → Prop} {v : Value} {xs : List α} (h : d.R e w base ok v xs) : some w.heap.size ≠ v.ownBlock := fun q => by
  obtain ⟨_, inner, ho, _⟩ := h
  have := own_lt ho _ q.symm
  omega

set_option maxRecDepth 100000 in
set_option maxHeartbeats 4000000 in
theorem valueRun_t (val : Int) (A0 : Option Addr) (c0 : Nat) (l : List S26) (w : World) (hC : Kd.C k26 w A0 l.length l) (hop : ∀ k, k < l.length → opV (rdP l k)) (hl : l.length ≤ 1000) :
    Calls Try.prog 14 #[.bool true, .int .i64 val, .slice A0 l.length c0] w fun e w' => ∃ v, e = .returned v ∧ Kd.R k36 36 w' w.heap.size (fun _ => True) v (ansV l (some val)) ∧ Below w.heap.size w w' := by
  have HC := Aside0.mk hC
  have HOP := Aside0.mk hop
  have HL := Aside0.mk hl
  have HW0 := Aside0.mk (WV_start w ⟨(Av.int val).val, .slice none 0 0, .slice none 0 0, .map none, .slice none 0 0⟩)
  have HB0 := Aside0.mk (below_alloc (Below.refl w.heap.size w) (.cells #[(.iface 2 (.int .i64 val)), .slice none 0 0, .slice none 0 0, .map none, .slice none 0 0, .slice none 0 0] 99))
  clear hC hop hl
  go_enter Try.func14, Try.ntmps14
  go_wp2_with (go_at_call 43; refine (mkV_any _ _).mono ?_; rintro e_ w2 ⟨rfl, hb⟩; have HW := Aside0.mk (HW0.out.below hb); have HB := Aside0.mk (below_then HB0.out HB0.out.size hb); clear hb)
  have B8 := Aside0.mk (heap_alloc_new w2 (.cells #[.string ⟨#[118]⟩] 101))
  have HW := Aside0.mk (HW.out.below (below_alloc (Below.refl _ _) (.cells #[.string ⟨#[118]⟩] 101)))
  have HB := Aside0.mk (HB.out.alloc HB.out.size (.cells #[.string ⟨#[118]⟩] 101))
  obtain ⟨n8, hn8⟩ : ∃ n, n = w2.heap.size := ⟨_, rfl⟩
  rw [← hn8] at B8 ⊢
  clear hn8
  go_loopg [9, 26] l.length (fun kq v9 v26 w' => ∃ (k : Nat) (acc : List S36) (cur : Option Int) (trs : List Tr), k ≤ l.length ∧ Aside0 (kq = l.length - k) ∧ v26 = .int .i64 k ∧ Aside0 (Kd.R k36 36 w' w.heap.size (fun _ => True) v9 acc) ∧ Aside0 (WV w' w.heap.size w.heap.size ⟨(Av.int val).val, .slice none 0 0, .slice none 0 0, .map none, .slice none 0 0⟩ trs) ∧ Aside0 (acc ++ ansV (l.drop k) cur = ansV l (some val) ∧ foldV (.int val) trs = opt cur ∧ (∀ j, j < trs.length → TrV (rdTr trs j)) ∧ trs.length ≤ k ∧ acc.length ≤ k) ∧ Aside0 (w'.heap[n8]? = some (.cells #[.string ⟨#[118]⟩] 101 (0, 0))) ∧ Aside0 (Below w.heap.size w w'))
  case atStart => exact ⟨0, [], (some val), [], Nat.zero_le _, ⟨by simp⟩, rfl, ⟨Kd.R_nil _ _ _ _ _⟩, HW, ⟨by simp, rfl, by simp, Nat.le_refl _, Nat.le_refl _⟩, B8, HB⟩
  case round =>
    clear HW HB B8 HW0 HB0
    obtain ⟨k, acc, cur, trs, hk, hq, rfl, HR, HW, HA, B8, HB⟩ := hrel
    have q1 : (l.length : Int) ≤ 1000 := by have := HL.out; omega
    by_cases hlt : k < l.length
    · obtain ⟨ad, ea, x0, x1, x2, x3, x4⟩ := atP HC.out k hlt
      subst ea
      replace x0 := (HB.out.cell (World.block_lt_of_cell? w _ x0)).trans x0
      replace x1 := (HB.out.cell (World.block_lt_of_cell? w _ x1)).trans x1
      replace x2 := (HB.out.cell (World.block_lt_of_cell? w _ x2)).trans x2
      replace x3 := (HB.out.cell (World.block_lt_of_cell? w _ x3)).trans x3
      replace x4 := (HB.out.cell (World.block_lt_of_cell? w _ x4)).trans x4
      have HO := Aside0.mk (HOP.out k hlt)
      have HD := Aside0.mk (drop_rdP l k hlt)
      generalize hx : rdP l k = x at x0 x1 x2 x3 x4 HO HD
      clear hx
      obtain ⟨s0, s1, s2, s3, s4⟩ := x
      simp only at x0 x1 x2 x3 x4
      have B8 := Aside0.mk (blk_alloc B8.out (.cells #[.int .i64 s0, .string s1, .int .i64 s2, .int .i64 s3, .int .i64 s4] 26))
      have HW := Aside0.mk (HW.out.below (below_alloc (Below.refl _ _) (.cells #[.int .i64 s0, .string s1, .int .i64 s2, .int .i64 s3, .int .i64 s4] 26)))
      have HR := Aside0.mk (Kd.R_below HR.out (below_alloc (Below.refl _ _) (.cells #[.int .i64 s0, .string s1, .int .i64 s2, .int .i64 s3, .int .i64 s4] 26)))
      have HB := Aside0.mk (HB.out.alloc HB.out.size (.cells #[.int .i64 s0, .string s1, .int .i64 s2, .int .i64 s3, .int .i64 s4] 26))
      have HTL := Aside0.mk (show trs.length ≤ 1000000000 by have := HA.out.2.2.2.1; have := HL.out; omega)
      have HAL := Aside0.mk (show (acc.length + 1) * 80 ≤ 140737488355328 by have := HA.out.2.2.2.2; have := HL.out; omega)
      rcases HO.out with e0 | e0 | e0
      · have t0 : (s0 == 0) = true := beq_iff_eq.2 e0
        have HA2 := Aside0.mk (show acc ++ ansV (l.drop (k + 1)) (some s2) = ansV l (some val) by have h := HA.out.1; rw [HD.out] at h; simp only [ansV] at h; rw [if_pos (by exact e0)] at h; exact h)
        clear e0
        go_wp2_with (go_at_call 44; refine (valWrite_any n8 w.heap.size w.heap.size _ trs _ s2 w _ B8.out HW.out HB.out HTL.out).mono ?_; rintro e_ w3 ⟨rfl, h1, h2, h3⟩; have B8 := Aside0.mk (h2.blk B8.out (by decide) (by decide)); have HR := Aside0.mk (h2.R HR.out (by decide)); have HB := Aside0.mk h3; have HW := Aside0.mk h1; clear h1 h2 h3)
        go_roundg (l.length - (k + 1))
        case measure => have := hq.out; omega
        case rel => exact ⟨k + 1, acc, some s2, _, by omega, ⟨rfl⟩, by go_num, HR, HW, ⟨HA2.out, by rw [foldV_snoc]; rfl, TrV_snoc HA.out.2.2.1 (.inl ⟨_, _, rfl⟩), by have := HA.out.2.2.2.1; simp; omega, by have := HA.out.2.2.2.2; omega⟩, B8, HB⟩
      · have t0 : (s0 == 0) = false := beq_eq_false_iff_ne.2 (by simp only at e0; omega)
        have t1 : (s0 == 1) = true := beq_iff_eq.2 e0
        have HA2 := Aside0.mk (show acc ++ ansV (l.drop (k + 1)) none = ansV l (some val) by have h := HA.out.1; rw [HD.out] at h; simp only [ansV] at h; rw [if_neg (by simp only at e0 ⊢; omega), if_pos (by exact e0)] at h; exact h)
        clear e0
        go_wp2_with (go_at_call 45; refine (valClear_any n8 w.heap.size w.heap.size _ trs _ w _ B8.out HW.out HB.out HTL.out).mono ?_; rintro e_ w3 ⟨rfl, h1, h2, h3⟩; have B8 := Aside0.mk (h2.blk B8.out (by decide) (by decide)); have HR := Aside0.mk (h2.R HR.out (by decide)); have HB := Aside0.mk h3; have HW := Aside0.mk h1; clear h1 h2 h3)
        go_roundg (l.length - (k + 1))
        case measure => have := hq.out; omega
        case rel => exact ⟨k + 1, acc, none, _, by omega, ⟨rfl⟩, by go_num, HR, HW, ⟨HA2.out, by rw [foldV_snoc]; rfl, TrV_snoc HA.out.2.2.1 (.inr ⟨_, rfl⟩), by have := HA.out.2.2.2.1; simp; omega, by have := HA.out.2.2.2.2; omega⟩, B8, HB⟩
      · have t0 : (s0 == 0) = false := beq_eq_false_iff_ne.2 (by simp only at e0; omega)
        have t1 : (s0 == 1) = false := beq_eq_false_iff_ne.2 (by simp only at e0; omega)
        have t2 : (s0 == 2) = true := beq_iff_eq.2 e0
        have HA2 := Aside0.mk (show (acc ++ [⟨cur.isSome, [optN cur], [], []⟩]) ++ ansV (l.drop (k + 1)) cur = ansV l (some val) by have h := HA.out.1; rw [HD.out] at h; simp only [ansV] at h; rw [if_neg (by simp only at e0 ⊢; omega), if_neg (by simp only at e0 ⊢; omega)] at h; rw [List.append_assoc]; exact h)
        clear e0
        go_wp2_with (first
          | (go_at_call 46; refine (valRead_any n8 w.heap.size w.heap.size (.int val) _ _ _ _ trs _ cur _ B8.out HW.out HA.out.2.1 HA.out.2.2.1 HTL.out).mono ?_; rintro e_ w3 ⟨rfl, hb⟩; have B8 := Aside0.mk (blk_below B8.out hb); have HW := Aside0.mk (HW.out.below hb); have HR := Aside0.mk (Kd.R_below HR.out hb); have HB := Aside0.mk (below_then HB.out HB.out.size hb); clear hb)
          | ((with_reducible refine gate_builtin (b := .append) (xs := #[.tmp 53, .tmp 58]) rfl ?_); at_builtin; refine Kd.R_append k36 (w0 := w) (W := w3.alloc (.cells #[.int .i64 (optN cur)] 2)) w.heap.size rfl (.tmp 53) (.tmp 58) 29 36 _ 80 rfl Try.underlying29 info36 rfl (by decide) (by decide) _ acc ⟨cur.isSome, [optN cur], [], []⟩ [.bool cur.isSome, .slice (some ⟨w3.heap.size, 0, none⟩) 1 1, .slice none 0 0, .slice none 0 0] (fun _ => True) (fun q => q = w3.heap.size) rfl ?aX ?aP ?aK (fun _ _ => trivial) ?aO ?aB ?aS HAL.out ?_; (case aX => first | (go_simp; done) | (go_simp; rfl)); (case aP => exact k36_mkM _ _ _ ⟨cur.isSome, [optN cur], [], []⟩ (R_ints w3 w.heap.size (fun q => q = w3.heap.size) _ HB.out.size rfl) (Kd.R_nil _ _ _ _ _) (Kd.R_nil _ _ _ _ _)); (case aO => exact Kd.R_alloc HR.out _); (case aK => exact (fun q hq => ⟨trivial, by rw [hq]; exact R_new_ne HR.out⟩)); (case aB => exact HB.out.alloc HB.out.size _); (case aS => exact (HB.out.alloc HB.out.size _).size); intro v1 w4 hR1 hB1 hg1 hat1; have HW := Aside0.mk ((HW.out.below (below_alloc (Below.refl _ _) (.cells #[.int .i64 (optN cur)] 2))).grown (Kd.R_alloc HR.out _) hg1 (by decide) (by decide)); have B8 := Aside0.mk (blk_grown (blk_alloc B8.out (.cells #[.int .i64 (optN cur)] 2)) hg1 (Kd.R_ne (Kd.R_alloc HR.out _) (blk_alloc B8.out (.cells #[.int .i64 (optN cur)] 2)) (show (36 : Nat) ≠ 101 by decide))); have HR := Aside0.mk hR1; have HB := Aside0.mk hB1; clear hR1 hB1 hg1 hat1))
        go_roundg (l.length - (k + 1))
        case measure => have := hq.out; omega
        case rel => exact ⟨k + 1, _, cur, trs, by omega, ⟨rfl⟩, by go_num, HR, HW, ⟨HA2.out, HA.out.2.1, HA.out.2.2.1, by have := HA.out.2.2.2.1; omega, by have := HA.out.2.2.2.2; simp; omega⟩, B8, HB⟩
    · have hkl : k = l.length := by omega
      subst hkl
      go_wp2
      go_ret
      have h := HA.out.1
      rw [List.drop_length] at h
      simp only [ansV, List.append_nil] at h
      exact ⟨_, rfl, by rw [← h]; exact HR.out, HB.out⟩
end Go.Proofs.Ytoigekmdicepnaa
