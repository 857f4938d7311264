/- Contracts: a window of a main input is mapped to one of a side input. -/
import Derived.Test.YtdifeleddhefnaaPl
import Derived.Test.YtdifeleddhefnaaEq
set_option linter.unusedVariables false
set_option linter.unusedSimpArgs false
namespace Go.Proofs.Ytdifeleddhefnaa
open Go.RowKit Go.Proofs.YtdifeleddhefnaaW.PrintWords

theorem St82 {b g : Nat} {f : WF} {w z z' : World} (hb : Below z.heap.size z z') (h : z.cell? ⟨b, 0, none⟩ = some (.pointer (some ⟨g, 0, none⟩)) ∧ Aside0 (z.heap[g]? = some (.cells f.cells 111 (0, 0)) ∧ Below w.heap.size w z)) : z'.cell? ⟨b, 0, none⟩ = some (.pointer (some ⟨g, 0, none⟩)) ∧ Aside0 (z'.heap[g]? = some (.cells f.cells 111 (0, 0)) ∧ Below w.heap.size w z') :=
  ⟨(hb.cell (World.block_lt_of_cell? z _ h.1)).trans h.1, ⟨blk_below h.2.out.1 hb, below_then h.2.out.2 h.2.out.2.size hb⟩⟩
set_option maxRecDepth 100000 in
set_option maxHeartbeats 4000000 in
theorem map82_any (b g : Nat) (f : WF) (x : Sp) (l : List Sp) (w : World) (hbx : w.heap[b]? = some (.cells #[.pointer (some ⟨g, 0, none⟩)] 114 (0, 0))) (hp : w.heap[g]? = some (.cells f.cells 111 (0, 0))) (hF : FT f (lst x)) (hl : placed f (lst x) = l) (hne : 0 < l.length) (he0 : -9000000000000000000 ≤ x.e) (he1 : x.e ≤ 9223372036854775807) :
    Calls Try.prog 82 #[.pointer (some ⟨b, 0, none⟩), ifv x] w fun e w' => e = .returned (.tuple #[ifv (rdSp l (l.length - 1)), .nilIface]) ∧ Below w.heap.size w w' := by
  have HBX := Aside0.mk hbx
  have HPB := Aside0.mk hp
  have HF := Aside0.mk hF
  have HL := Aside0.mk hl
  have HNE := Aside0.mk hne
  clear hbx hp hF hl hne
  obtain ⟨g_, s, e⟩ := x
  simp only at he0 he1
  cases g_
  · have hxe : ifv ⟨false, s, e⟩ = .iface 107 (.agg #[.int .i64 s, .int .i64 e]) := rfl
    rw [hxe]
    have hlx : lst ⟨false, s, e⟩ = e - 1 := rfl
    rw [hlx] at HF HL
    clear hlx hxe
    have K0 : w.drew.cell? ⟨b, 0, none⟩ = some (.pointer (some ⟨g, 0, none⟩)) ∧ Aside0 (w.drew.heap[g]? = some (.cells f.cells 111 (0, 0)) ∧ Below w.heap.size w w.drew) := ⟨(blk_cell (blk_drew HBX.out) 0).trans rfl, ⟨blk_drew HPB.out, below_drew (Below.refl _ _)⟩⟩
    go_enter Try.func82, Try.ntmps82
    go_wp2_with fail
    go_region_held3 (fun z => z.cell? ⟨b, 0, none⟩ = some (.pointer (some ⟨g, 0, none⟩)) ∧ Aside0 (z.heap[g]? = some (.cells f.cells 111 (0, 0)) ∧ Below w.heap.size w z)) (first | exact K | exact K0 | assumption)
      (first
      | (go_at_call 120; refine (iMax_any s e he0 he1 _).mono ?_; rintro e_ w1 ⟨rfl, hb⟩; have K := St82 hb (by assumption); clear hb)
      | (go_at_call 74; refine (asg_any g f _ HF.out _ K.2.out.1).mono ?_; rintro e_ w2 ⟨v_, rfl, hR, hb⟩; have K := St82 hb (by assumption); rw [HL.out] at hR; obtain ⟨A_, c_, hv_, hc_, hC_⟩ := Kd.R_reads hR; subst hv_; have HC := Aside0.mk hC_; clear hR hc_ hC_ hb))
    all_goals
      obtain ⟨ad, ea, hx0⟩ := atIf HC.out (l.length - 1) (by have := HNE.out; omega)
      subst ea
      have q0 : (0 : Int) < (l.length : Int) := by have := HNE.out; omega
      have q1 : (l.length : Int) ≤ 1000000000 := by have := placed_len (f := f) (t := e - 1) HF.out.s; rw [HL.out] at this; omega
      have q2 : ((l.length : Int) - 1).toNat = l.length - 1 := by omega
      have q3 : ((l.length : Int) == 0) = false := beq_eq_false_iff_ne.mpr (by omega)
      have HB := Aside0.mk K.2.out.2
      go_wp2_with fail
      go_returns
      exact ⟨rfl, HB.out⟩
  · have hxe : ifv ⟨true, s, e⟩ = .iface 105 (.agg #[]) := rfl
    rw [hxe]
    have hlx : lst ⟨true, s, e⟩ = 9223371950454775 := rfl
    rw [hlx] at HF HL
    clear hlx hxe
    have K0 : w.drew.cell? ⟨b, 0, none⟩ = some (.pointer (some ⟨g, 0, none⟩)) ∧ Aside0 (w.drew.heap[g]? = some (.cells f.cells 111 (0, 0)) ∧ Below w.heap.size w w.drew) := ⟨(blk_cell (blk_drew HBX.out) 0).trans rfl, ⟨blk_drew HPB.out, below_drew (Below.refl _ _)⟩⟩
    go_enter Try.func82, Try.ntmps82
    go_wp2_with fail
    go_region_held3 (fun z => z.cell? ⟨b, 0, none⟩ = some (.pointer (some ⟨g, 0, none⟩)) ∧ Aside0 (z.heap[g]? = some (.cells f.cells 111 (0, 0)) ∧ Below w.heap.size w z)) (first | exact K | exact K0 | assumption)
      (first
      | (go_at_call 117; refine (gMax_any _).mono ?_; rintro e_ w1 ⟨rfl, hb⟩; have K := St82 hb (by assumption); clear hb)
      | (go_at_call 74; refine (asg_any g f _ HF.out _ K.2.out.1).mono ?_; rintro e_ w2 ⟨v_, rfl, hR, hb⟩; have K := St82 hb (by assumption); rw [HL.out] at hR; obtain ⟨A_, c_, hv_, hc_, hC_⟩ := Kd.R_reads hR; subst hv_; have HC := Aside0.mk hC_; clear hR hc_ hC_ hb))
    all_goals
      obtain ⟨ad, ea, hx0⟩ := atIf HC.out (l.length - 1) (by have := HNE.out; omega)
      subst ea
      have q0 : (0 : Int) < (l.length : Int) := by have := HNE.out; omega
      have q1 : (l.length : Int) ≤ 1000000000 := by have := placed_len (f := f) (t := 9223371950454775) HF.out.s; rw [HL.out] at this; omega
      have q2 : ((l.length : Int) - 1).toNat = l.length - 1 := by omega
      have q3 : ((l.length : Int) == 0) = false := beq_eq_false_iff_ne.mpr (by omega)
      have HB := Aside0.mk K.2.out.2
      go_wp2_with fail
      go_returns
      exact ⟨rfl, HB.out⟩
theorem map65_any (g : Nat) (f : WF) (x : Sp) (l : List Sp) (w : World) (hp : w.heap[g]? = some (.cells f.cells 111 (0, 0))) (hF : FT f (lst x)) (hl : placed f (lst x) = l) (hne : 0 < l.length) (he0 : -9000000000000000000 ≤ x.e) (he1 : x.e ≤ 9223372036854775807) :
    Calls Try.prog 65 #[.pointer (some ⟨g, 0, none⟩), ifv x] w fun e w' => e = .returned (.tuple #[ifv (rdSp l (l.length - 1)), .nilIface]) ∧ Below w.heap.size w w' := by
  have HPB := Aside0.mk (blk_alloc hp (.cells #[.pointer (some ⟨g, 0, none⟩)] 114))
  have HBX := Aside0.mk (heap_alloc_new w (.cells #[.pointer (some ⟨g, 0, none⟩)] 114))
  have HF := Aside0.mk hF
  have HL := Aside0.mk hl
  have HNE := Aside0.mk hne
  have H0 := Aside0.mk he0
  have H1 := Aside0.mk he1
  clear hp hF hl hne he0 he1
  go_enter Try.func65, Try.ntmps65
  go_wp2_with (go_at_call 82; refine (map82_any w.heap.size g f x l _ HBX.out HPB.out HF.out HL.out HNE.out H0.out H1.out).mono ?_; rintro e_ w2 ⟨rfl, hb⟩; have HB := Aside0.mk ((below_alloc (Below.refl w.heap.size w) _).trans (hb.mono (by simp))); clear hb)
  go_returns
  exact ⟨rfl, HB.out⟩
/-- What a call of 'WinMap' has boxed. -/
def BM (k sz pd gp : Int) (x : Sp) (w z : World) : Prop := z.heap[w.heap.size]? = some (.cells #[.int .u8 k, .int .i64 sz, .int .i64 pd, .int .i64 gp] 30 (0, 0)) ∧ z.heap[w.heap.size + 1]? = some (.cells #[.bool x.g, .int .i64 x.s, .int .i64 x.e] 36 (0, 0)) ∧ z.heap[w.heap.size + 1 + 1]? = some (.cells #[.bool false, .int .i64 0, .int .i64 0] 36 (0, 0)) ∧ Below w.heap.size w z
theorem BM.all {k sz pd gp : Int} {x : Sp} {w z : World} (h : BM k sz pd gp x w z) : z.cell? ⟨w.heap.size, 0, none⟩ = some (.int .u8 k) ∧ z.cell? ⟨w.heap.size, 1, none⟩ = some (.int .i64 sz) ∧ z.cell? ⟨w.heap.size, 2, none⟩ = some (.int .i64 pd) ∧ z.cell? ⟨w.heap.size, 3, none⟩ = some (.int .i64 gp) ∧ z.cell? ⟨w.heap.size + 1, 0, none⟩ = some (.bool x.g) ∧ z.cell? ⟨w.heap.size + 1, 1, none⟩ = some (.int .i64 x.s) ∧ z.cell? ⟨w.heap.size + 1, 2, none⟩ = some (.int .i64 x.e) ∧ Aside0 (BM k sz pd gp x w z) :=
  ⟨(blk_cell h.1 0).trans rfl, (blk_cell h.1 1).trans rfl, (blk_cell h.1 2).trans rfl, (blk_cell h.1 3).trans rfl, (blk_cell h.2.1 0).trans rfl, (blk_cell h.2.1 1).trans rfl, (blk_cell h.2.1 2).trans rfl, ⟨h⟩⟩
theorem BM.step {k sz pd gp : Int} {x : Sp} {w z z' : World} (hb : Below z.heap.size z z') (h : z.cell? ⟨w.heap.size, 0, none⟩ = some (.int .u8 k) ∧ z.cell? ⟨w.heap.size, 1, none⟩ = some (.int .i64 sz) ∧ z.cell? ⟨w.heap.size, 2, none⟩ = some (.int .i64 pd) ∧ z.cell? ⟨w.heap.size, 3, none⟩ = some (.int .i64 gp) ∧ z.cell? ⟨w.heap.size + 1, 0, none⟩ = some (.bool x.g) ∧ z.cell? ⟨w.heap.size + 1, 1, none⟩ = some (.int .i64 x.s) ∧ z.cell? ⟨w.heap.size + 1, 2, none⟩ = some (.int .i64 x.e) ∧ Aside0 (BM k sz pd gp x w z)) : z'.cell? ⟨w.heap.size, 0, none⟩ = some (.int .u8 k) ∧ z'.cell? ⟨w.heap.size, 1, none⟩ = some (.int .i64 sz) ∧ z'.cell? ⟨w.heap.size, 2, none⟩ = some (.int .i64 pd) ∧ z'.cell? ⟨w.heap.size, 3, none⟩ = some (.int .i64 gp) ∧ z'.cell? ⟨w.heap.size + 1, 0, none⟩ = some (.bool x.g) ∧ z'.cell? ⟨w.heap.size + 1, 1, none⟩ = some (.int .i64 x.s) ∧ z'.cell? ⟨w.heap.size + 1, 2, none⟩ = some (.int .i64 x.e) ∧ Aside0 (BM k sz pd gp x w z') :=
  BM.all ⟨blk_below h.2.2.2.2.2.2.2.out.1 hb, blk_below h.2.2.2.2.2.2.2.out.2.1 hb, blk_below h.2.2.2.2.2.2.2.out.2.2.1 hb, below_then h.2.2.2.2.2.2.2.out.2.2.2 h.2.2.2.2.2.2.2.out.2.2.2.size hb⟩
theorem BM.start (k sz pd gp : Int) (x : Sp) (w : World) : BM k sz pd gp x w (((w.alloc (.cells #[.int .u8 k, .int .i64 sz, .int .i64 pd, .int .i64 gp] 30)).alloc (.cells #[.bool x.g, .int .i64 x.s, .int .i64 x.e] 36)).alloc (.cells #[.bool false, .int .i64 0, .int .i64 0] 36)) := by
  refine ⟨?_, ?_, ?_, below_alloc (below_alloc (below_alloc (Below.refl _ _) _) _) _⟩
  · exact blk_alloc (blk_alloc (heap_alloc_new w _) _) _
  · exact blk_alloc (new2' w _ _) _
  · have h := heap_alloc_new ((w.alloc (.cells #[.int .u8 k, .int .i64 sz, .int .i64 pd, .int .i64 gp] 30)).alloc (.cells #[.bool x.g, .int .i64 x.s, .int .i64 x.e] 36)) (.cells #[.bool false, .int .i64 0, .int .i64 0] 36)
    rw [World.size_alloc, World.size_alloc] at h
    exact h
set_option maxRecDepth 100000 in
set_option maxHeartbeats 4000000 in
theorem winMap_any (k sz pd gp : Int) (x : Sp) (l : List Sp) (w : World) (hF : FT ⟨k, sz, pd, gp⟩ (lst x)) (hl : placed ⟨k, sz, pd, gp⟩ (lst x) = l) (hne : 0 < l.length) (he0 : -9000000000000000000 ≤ x.e) (he1 : x.e ≤ 9223372036854775807) :
    Calls Try.prog 42 #[.agg #[.int .u8 k, .int .i64 sz, .int .i64 pd, .int .i64 gp], .agg #[.bool x.g, .int .i64 x.s, .int .i64 x.e]] w fun e w' => e = .returned (.tuple #[.agg #[.bool (nz (rdSp l (l.length - 1))).g, .int .i64 (nz (rdSp l (l.length - 1))).s, .int .i64 (nz (rdSp l (l.length - 1))).e], .bool true]) ∧ Below w.heap.size w w' := by
  have HF := Aside0.mk hF
  have HL := Aside0.mk hl
  have HNE := Aside0.mk hne
  have H0 := Aside0.mk he0
  have H1 := Aside0.mk he1
  clear hF hl hne he0 he1
  have KS := BM.all (BM.start k sz pd gp x w)
  have K0 : (((w.alloc (.cells #[.int .u8 k, .int .i64 sz, .int .i64 pd, .int .i64 gp] 30)).alloc (.cells #[.bool x.g, .int .i64 x.s, .int .i64 x.e] 36)).alloc (.cells #[.bool false, .int .i64 0, .int .i64 0] 36)).drew.cell? ⟨w.heap.size, 0, none⟩ = some (.int .u8 k) ∧ (((w.alloc (.cells #[.int .u8 k, .int .i64 sz, .int .i64 pd, .int .i64 gp] 30)).alloc (.cells #[.bool x.g, .int .i64 x.s, .int .i64 x.e] 36)).alloc (.cells #[.bool false, .int .i64 0, .int .i64 0] 36)).drew.cell? ⟨w.heap.size, 1, none⟩ = some (.int .i64 sz) ∧ (((w.alloc (.cells #[.int .u8 k, .int .i64 sz, .int .i64 pd, .int .i64 gp] 30)).alloc (.cells #[.bool x.g, .int .i64 x.s, .int .i64 x.e] 36)).alloc (.cells #[.bool false, .int .i64 0, .int .i64 0] 36)).drew.cell? ⟨w.heap.size, 2, none⟩ = some (.int .i64 pd) ∧ (((w.alloc (.cells #[.int .u8 k, .int .i64 sz, .int .i64 pd, .int .i64 gp] 30)).alloc (.cells #[.bool x.g, .int .i64 x.s, .int .i64 x.e] 36)).alloc (.cells #[.bool false, .int .i64 0, .int .i64 0] 36)).drew.cell? ⟨w.heap.size, 3, none⟩ = some (.int .i64 gp) ∧ (((w.alloc (.cells #[.int .u8 k, .int .i64 sz, .int .i64 pd, .int .i64 gp] 30)).alloc (.cells #[.bool x.g, .int .i64 x.s, .int .i64 x.e] 36)).alloc (.cells #[.bool false, .int .i64 0, .int .i64 0] 36)).drew.cell? ⟨w.heap.size + 1, 0, none⟩ = some (.bool x.g) ∧ (((w.alloc (.cells #[.int .u8 k, .int .i64 sz, .int .i64 pd, .int .i64 gp] 30)).alloc (.cells #[.bool x.g, .int .i64 x.s, .int .i64 x.e] 36)).alloc (.cells #[.bool false, .int .i64 0, .int .i64 0] 36)).drew.cell? ⟨w.heap.size + 1, 1, none⟩ = some (.int .i64 x.s) ∧ (((w.alloc (.cells #[.int .u8 k, .int .i64 sz, .int .i64 pd, .int .i64 gp] 30)).alloc (.cells #[.bool x.g, .int .i64 x.s, .int .i64 x.e] 36)).alloc (.cells #[.bool false, .int .i64 0, .int .i64 0] 36)).drew.cell? ⟨w.heap.size + 1, 2, none⟩ = some (.int .i64 x.e) ∧ Aside0 (BM k sz pd gp x w (((w.alloc (.cells #[.int .u8 k, .int .i64 sz, .int .i64 pd, .int .i64 gp] 30)).alloc (.cells #[.bool x.g, .int .i64 x.s, .int .i64 x.e] 36)).alloc (.cells #[.bool false, .int .i64 0, .int .i64 0] 36)).drew) := BM.step (below_drew (Below.refl _ _)) KS
  clear KS
  go_enter Try.func42, Try.ntmps42
  go_wp2_with fail
  go_region_held3 (fun z => z.cell? ⟨w.heap.size, 0, none⟩ = some (.int .u8 k) ∧ z.cell? ⟨w.heap.size, 1, none⟩ = some (.int .i64 sz) ∧ z.cell? ⟨w.heap.size, 2, none⟩ = some (.int .i64 pd) ∧ z.cell? ⟨w.heap.size, 3, none⟩ = some (.int .i64 gp) ∧ z.cell? ⟨w.heap.size + 1, 0, none⟩ = some (.bool x.g) ∧ z.cell? ⟨w.heap.size + 1, 1, none⟩ = some (.int .i64 x.s) ∧ z.cell? ⟨w.heap.size + 1, 2, none⟩ = some (.int .i64 x.e) ∧ Aside0 (BM k sz pd gp x w z)) (first | exact K | exact K0 | assumption)
    (first
    | (go_at_call 51; refine (winFn_any ⟨k, sz, pd, gp⟩ HF.out.s HF.out.p HF.out.g _).mono ?_; rintro e_ w1 ⟨g_, rfl, hg1, hg2, hb⟩; have K : w1.cell? ⟨w.heap.size, 0, none⟩ = some (.int .u8 k) ∧ w1.cell? ⟨w.heap.size, 1, none⟩ = some (.int .i64 sz) ∧ w1.cell? ⟨w.heap.size, 2, none⟩ = some (.int .i64 pd) ∧ w1.cell? ⟨w.heap.size, 3, none⟩ = some (.int .i64 gp) ∧ w1.cell? ⟨w.heap.size + 1, 0, none⟩ = some (.bool x.g) ∧ w1.cell? ⟨w.heap.size + 1, 1, none⟩ = some (.int .i64 x.s) ∧ w1.cell? ⟨w.heap.size + 1, 2, none⟩ = some (.int .i64 x.e) ∧ Aside0 (BM k sz pd gp x w w1) := BM.step hb (by assumption); have HG := Aside0.mk hg2; clear hg1 hg2 hb)
    | (go_at_call 60; refine (win_any x _).mono ?_; rintro e_ w2 ⟨rfl, hb⟩; have K : w2.cell? ⟨w.heap.size, 0, none⟩ = some (.int .u8 k) ∧ w2.cell? ⟨w.heap.size, 1, none⟩ = some (.int .i64 sz) ∧ w2.cell? ⟨w.heap.size, 2, none⟩ = some (.int .i64 pd) ∧ w2.cell? ⟨w.heap.size, 3, none⟩ = some (.int .i64 gp) ∧ w2.cell? ⟨w.heap.size + 1, 0, none⟩ = some (.bool x.g) ∧ w2.cell? ⟨w.heap.size + 1, 1, none⟩ = some (.int .i64 x.s) ∧ w2.cell? ⟨w.heap.size + 1, 2, none⟩ = some (.int .i64 x.e) ∧ Aside0 (BM k sz pd gp x w w2) := BM.step hb (by assumption); have HG2 := Aside0.mk (blk_below HG.out hb); clear HG hb; obtain ⟨t_, v_, hv_⟩ := ifv_iface x; have HV := Aside0.mk hv_; rw [hv_]; clear hv_)
    | (go_at_call 65; rw [← HV.out]; refine (map65_any g_ ⟨k, sz, pd, gp⟩ x l _ HG2.out HF.out HL.out HNE.out H0.out H1.out).mono ?_; rintro e_ w3 ⟨rfl, hb⟩; have K : w3.cell? ⟨w.heap.size, 0, none⟩ = some (.int .u8 k) ∧ w3.cell? ⟨w.heap.size, 1, none⟩ = some (.int .i64 sz) ∧ w3.cell? ⟨w.heap.size, 2, none⟩ = some (.int .i64 pd) ∧ w3.cell? ⟨w.heap.size, 3, none⟩ = some (.int .i64 gp) ∧ w3.cell? ⟨w.heap.size + 1, 0, none⟩ = some (.bool x.g) ∧ w3.cell? ⟨w.heap.size + 1, 1, none⟩ = some (.int .i64 x.s) ∧ w3.cell? ⟨w.heap.size + 1, 2, none⟩ = some (.int .i64 x.e) ∧ Aside0 (BM k sz pd gp x w w3) := BM.step hb (by assumption); clear hb))
  all_goals
    have HM := K.2.2.2.2.2.2.2
    clear K K0
    go_wp2_with (go_at_call 66; refine (backWin_any (rdSp l (l.length - 1)) _).mono ?_; rintro e_ w4 ⟨rfl, hb⟩; have B4 := Aside0.mk (blk_below HM.out.2.2.1 hb); have z0 : w4.cell? ⟨w.heap.size + 1 + 1, 0, none⟩ = some (.bool false) := (blk_cell B4.out 0).trans rfl; have z1 : w4.cell? ⟨w.heap.size + 1 + 1, 1, none⟩ = some (.int .i64 0) := (blk_cell B4.out 1).trans rfl; have z2 : w4.cell? ⟨w.heap.size + 1 + 1, 2, none⟩ = some (.int .i64 0) := (blk_cell B4.out 2).trans rfl; have f0 := blk_frozen B4.out 0; have f1 := blk_frozen B4.out 1; have f2 := blk_frozen B4.out 2; have HB := Aside0.mk (below_then HM.out.2.2.2 HM.out.2.2.2.size hb); clear hb)
    have b1 := blk_set B4.out 0 (.bool (nz (rdSp l (l.length - 1))).g)
    have b2 := blk_set b1 1 (.int .i64 (nz (rdSp l (l.length - 1))).s)
    have b3 := blk_set b2 2 (.int .i64 (nz (rdSp l (l.length - 1))).e)
    have r0 : (w4.setCell ⟨w.heap.size + 1 + 1, 0, none⟩ (.bool (nz (rdSp l (l.length - 1))).g)).cell? ⟨w.heap.size + 1 + 1, 0, none⟩ = some (.bool (nz (rdSp l (l.length - 1))).g) := (blk_cell b1 0).trans rfl
    have r1 : ((w4.setCell ⟨w.heap.size + 1 + 1, 0, none⟩ (.bool (nz (rdSp l (l.length - 1))).g)).setCell ⟨w.heap.size + 1 + 1, 1, none⟩ (.int .i64 (nz (rdSp l (l.length - 1))).s)).cell? ⟨w.heap.size + 1 + 1, 1, none⟩ = some (.int .i64 (nz (rdSp l (l.length - 1))).s) := (blk_cell b2 1).trans rfl
    have r2 : (((w4.setCell ⟨w.heap.size + 1 + 1, 0, none⟩ (.bool (nz (rdSp l (l.length - 1))).g)).setCell ⟨w.heap.size + 1 + 1, 1, none⟩ (.int .i64 (nz (rdSp l (l.length - 1))).s)).setCell ⟨w.heap.size + 1 + 1, 2, none⟩ (.int .i64 (nz (rdSp l (l.length - 1))).e)).cell? ⟨w.heap.size + 1 + 1, 2, none⟩ = some (.int .i64 (nz (rdSp l (l.length - 1))).e) := (blk_cell b3 2).trans rfl
    refine bodyPost_ret (by simp [results, Try.results42, go_sem, r0, r1, r2]; try rfl) rfl ?_
    exact ⟨rfl, by repeat (first | exact HB.out | refine below_set ?_ (show w.heap.size ≤ w.heap.size + 1 + 1 by omega))⟩
end Go.Proofs.Ytdifeleddhefnaa
