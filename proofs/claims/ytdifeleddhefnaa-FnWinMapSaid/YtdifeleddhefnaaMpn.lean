/- Contracts: a window that no window of the side input has. -/
import Derived.Test.YtdifeleddhefnaaMap
import Derived.Test.YtdifeleddhefnaaFsn
set_option linter.unusedVariables false
set_option linter.unusedSimpArgs false
namespace Go.Proofs.Ytdifeleddhefnaa
open Go.RowKit Go.Proofs.YtdifeleddhefnaaW.PrintWords

theorem bs_size (l : List UInt8) : (⟨l.toArray⟩ : ByteArray).size = l.length := by simp [ByteArray.size]
theorem ftxt_size (f : WF) (hs : In9 f.sz) (hd : In9 f.pd) (hg : In9 f.gp) : (ftxt f).size ≤ 100 := by
  have h1 := dstr_size f.sz hs.1 hs.2
  have h2 := dstr_size f.pd hd.1 hd.2
  have h3 := dstr_size f.gp hg.1 hg.2
  have e1 : (⟨#[70, 73, 88, 91]⟩ : ByteArray).size = 4 := rfl
  have e2 : (⟨#[83, 76, 73, 91]⟩ : ByteArray).size = 4 := rfl
  have e3 : (⟨#[83, 69, 83, 91]⟩ : ByteArray).size = 4 := rfl
  have e4 : (⟨#[93]⟩ : ByteArray).size = 1 := rfl
  have e5 : (⟨#[64]⟩ : ByteArray).size = 1 := rfl
  have e6 : (⟨#[71, 76, 79]⟩ : ByteArray).size = 3 := rfl
  unfold ftxt
  split
  · rw [ByteArray.size_append, ByteArray.size_append]; omega
  · split
    · rw [ByteArray.size_append, ByteArray.size_append, ByteArray.size_append, ByteArray.size_append]; omega
    · split
      · rw [ByteArray.size_append, ByteArray.size_append]; omega
      · omega
set_option maxRecDepth 100000 in
theorem errNew_any (s : ByteArray) (w : World) : Calls Try.prog 92 #[.string s] w fun e w' => ∃ b : Nat, e = .returned (.iface 129 (.pointer (some ⟨b, 0, none⟩))) ∧ Below w.heap.size w w' := by
  go_enter Try.func92, Try.ntmps92
  go_wp2
  go_ret
  exact ⟨_, rfl, below_alloc (Below.refl _ _) _⟩
set_option maxRecDepth 100000 in
set_option maxHeartbeats 4000000 in
theorem map82_none (b g : Nat) (f : WF) (s e : Int) (w : World) (hbx : w.heap[b]? = some (.cells #[.pointer (some ⟨g, 0, none⟩)] 114 (0, 0))) (hp : w.heap[g]? = some (.cells f.cells 111 (0, 0))) (hF : FT f (e - 1)) (hl : placed f (e - 1) = []) (he0 : -9000000000000000000 ≤ e) (he1 : e ≤ 9223372036854775807) :
    Calls Try.prog 82 #[.pointer (some ⟨b, 0, none⟩), ifv ⟨false, s, e⟩] w fun x w' => ∃ bb : Nat, x = .returned (.tuple #[.nilIface, .iface 129 (.pointer (some ⟨bb, 0, none⟩))]) ∧ Below w.heap.size w w' := by
  have HBX := Aside0.mk hbx
  have HPB := Aside0.mk hp
  have HF := Aside0.mk hF
  have HL := Aside0.mk hl
  have HTS := Aside0.mk (ftxt_size f hF.s hF.p hF.g)
  clear hbx hp hF hl
  have hxe : ifv ⟨false, s, e⟩ = .iface 107 (.agg #[.int .i64 s, .int .i64 e]) := rfl
  rw [hxe]
  clear hxe
  have K0 : w.drew.cell? ⟨b, 0, none⟩ = some (.pointer (some ⟨g, 0, none⟩)) ∧ Aside0 (w.drew.heap[g]? = some (.cells f.cells 111 (0, 0)) ∧ Below w.heap.size w w.drew) := ⟨(blk_cell (blk_drew HBX.out) 0).trans rfl, ⟨blk_drew HPB.out, below_drew (Below.refl _ _)⟩⟩
  go_enter Try.func82, Try.ntmps82
  go_wp2_with fail
  go_region_held3 (fun z => z.cell? ⟨b, 0, none⟩ = some (.pointer (some ⟨g, 0, none⟩)) ∧ Aside0 (z.heap[g]? = some (.cells f.cells 111 (0, 0)) ∧ Below w.heap.size w z)) (first | exact K | exact K0 | assumption)
    (first
    | (go_at_call 120; refine (iMax_any s e he0 he1 _).mono ?_; rintro e_ w1 ⟨rfl, hb⟩; have K := St82 hb (by assumption); clear hb)
    | (go_at_call 74; refine (asg_any g f _ HF.out _ K.2.out.1).mono ?_; rintro e_ w2 ⟨v_, rfl, hR, hb⟩; have K := St82 hb (by assumption); rw [HL.out] at hR; obtain ⟨A_, c_, hv_⟩ := Kd.R_slice hR; subst hv_; clear hR hb))
  all_goals
    have KC := K.1
    have KH := K.2
    obtain ⟨F, hF⟩ : ∃ F, ftxt f = F := ⟨_, rfl⟩
    have HFS := Aside0.mk (fun W (h : W.heap[g]? = some (.cells f.cells 111 (0, 0))) => fnString_any g f HF.out.s HF.out.p HF.out.g W h)
    rw [hF] at HFS HTS
    have s0 : F.size ≤ 100 := HTS.out
    clear hF
    go_wp2_with fail
    refine (HFS.out _ KH.out.1).mono ?_
    rintro e_ w3 ⟨rfl, hb⟩
    have HB := Aside0.mk (below_then KH.out.2 KH.out.2.size hb)
    clear hb
    go_wp2_with fail
    refine (errNew_any _ _).mono ?_
    rintro e_ w4 ⟨b4, rfl, hb⟩
    have HB := Aside0.mk (below_then HB.out HB.out.size hb)
    clear hb
    go_wp2
    go_returns
    exact ⟨_, rfl, HB.out⟩
set_option maxRecDepth 100000 in
set_option maxHeartbeats 4000000 in
theorem map65_none (g : Nat) (f : WF) (s e : Int) (w : World) (hp : w.heap[g]? = some (.cells f.cells 111 (0, 0))) (hF : FT f (e - 1)) (hl : placed f (e - 1) = []) (he0 : -9000000000000000000 ≤ e) (he1 : e ≤ 9223372036854775807) :
    Calls Try.prog 65 #[.pointer (some ⟨g, 0, none⟩), ifv ⟨false, s, e⟩] w fun x w' => ∃ bb : Nat, x = .returned (.tuple #[.nilIface, .iface 129 (.pointer (some ⟨bb, 0, none⟩))]) ∧ Below w.heap.size w w' := by
  have HPB := Aside0.mk (blk_alloc hp (.cells #[.pointer (some ⟨g, 0, none⟩)] 114))
  have HBX := Aside0.mk (heap_alloc_new w (.cells #[.pointer (some ⟨g, 0, none⟩)] 114))
  have HF := Aside0.mk hF
  have HL := Aside0.mk hl
  have H0 := Aside0.mk he0
  have H1 := Aside0.mk he1
  clear hp hF hl he0 he1
  go_enter Try.func65, Try.ntmps65
  go_wp2_with (go_at_call 82; refine (map82_none w.heap.size g f s e _ HBX.out HPB.out HF.out HL.out H0.out H1.out).mono ?_; rintro e_ w2 ⟨b2, rfl, hb⟩; have HB := Aside0.mk ((below_alloc (Below.refl w.heap.size w) _).trans (hb.mono (by simp))); clear hb)
  go_returns
  exact ⟨_, rfl, HB.out⟩
set_option maxRecDepth 100000 in
set_option maxHeartbeats 4000000 in
theorem winMap_none (k sz pd gp : Int) (s e : Int) (w : World) (hF : FT ⟨k, sz, pd, gp⟩ (e - 1)) (hl : placed ⟨k, sz, pd, gp⟩ (e - 1) = []) (he0 : -9000000000000000000 ≤ e) (he1 : e ≤ 9223372036854775807) :
    Calls Try.prog 42 #[.agg #[.int .u8 k, .int .i64 sz, .int .i64 pd, .int .i64 gp], .agg #[.bool false, .int .i64 s, .int .i64 e]] w fun r_ w' => r_ = .returned (.tuple #[.agg #[.bool false, .int .i64 0, .int .i64 0], .bool false]) ∧ Below w.heap.size w w' := by
  have HF := Aside0.mk hF
  have HL := Aside0.mk hl
  have H0 := Aside0.mk he0
  have H1 := Aside0.mk he1
  clear hF hl he0 he1
  have KS := BM.all (BM.start k sz pd gp ⟨false, s, e⟩ w)
  have K0 : (((w.alloc (.cells #[.int .u8 k, .int .i64 sz, .int .i64 pd, .int .i64 gp] 30)).alloc (.cells #[.bool false, .int .i64 s, .int .i64 e] 36)).alloc (.cells #[.bool false, .int .i64 0, .int .i64 0] 36)).drew.cell? ⟨w.heap.size, 0, none⟩ = some (.int .u8 k) ∧ (((w.alloc (.cells #[.int .u8 k, .int .i64 sz, .int .i64 pd, .int .i64 gp] 30)).alloc (.cells #[.bool false, .int .i64 s, .int .i64 e] 36)).alloc (.cells #[.bool false, .int .i64 0, .int .i64 0] 36)).drew.cell? ⟨w.heap.size, 1, none⟩ = some (.int .i64 sz) ∧ (((w.alloc (.cells #[.int .u8 k, .int .i64 sz, .int .i64 pd, .int .i64 gp] 30)).alloc (.cells #[.bool false, .int .i64 s, .int .i64 e] 36)).alloc (.cells #[.bool false, .int .i64 0, .int .i64 0] 36)).drew.cell? ⟨w.heap.size, 2, none⟩ = some (.int .i64 pd) ∧ (((w.alloc (.cells #[.int .u8 k, .int .i64 sz, .int .i64 pd, .int .i64 gp] 30)).alloc (.cells #[.bool false, .int .i64 s, .int .i64 e] 36)).alloc (.cells #[.bool false, .int .i64 0, .int .i64 0] 36)).drew.cell? ⟨w.heap.size, 3, none⟩ = some (.int .i64 gp) ∧ (((w.alloc (.cells #[.int .u8 k, .int .i64 sz, .int .i64 pd, .int .i64 gp] 30)).alloc (.cells #[.bool false, .int .i64 s, .int .i64 e] 36)).alloc (.cells #[.bool false, .int .i64 0, .int .i64 0] 36)).drew.cell? ⟨w.heap.size + 1, 0, none⟩ = some (.bool false) ∧ (((w.alloc (.cells #[.int .u8 k, .int .i64 sz, .int .i64 pd, .int .i64 gp] 30)).alloc (.cells #[.bool false, .int .i64 s, .int .i64 e] 36)).alloc (.cells #[.bool false, .int .i64 0, .int .i64 0] 36)).drew.cell? ⟨w.heap.size + 1, 1, none⟩ = some (.int .i64 s) ∧ (((w.alloc (.cells #[.int .u8 k, .int .i64 sz, .int .i64 pd, .int .i64 gp] 30)).alloc (.cells #[.bool false, .int .i64 s, .int .i64 e] 36)).alloc (.cells #[.bool false, .int .i64 0, .int .i64 0] 36)).drew.cell? ⟨w.heap.size + 1, 2, none⟩ = some (.int .i64 e) ∧ Aside0 (BM k sz pd gp ⟨false, s, e⟩ w (((w.alloc (.cells #[.int .u8 k, .int .i64 sz, .int .i64 pd, .int .i64 gp] 30)).alloc (.cells #[.bool false, .int .i64 s, .int .i64 e] 36)).alloc (.cells #[.bool false, .int .i64 0, .int .i64 0] 36)).drew) := BM.step (x := ⟨false, s, e⟩) (below_drew (Below.refl _ _)) KS
  clear KS
  go_enter Try.func42, Try.ntmps42
  go_wp2_with fail
  go_region_held3 (fun z => z.cell? ⟨w.heap.size, 0, none⟩ = some (.int .u8 k) ∧ z.cell? ⟨w.heap.size, 1, none⟩ = some (.int .i64 sz) ∧ z.cell? ⟨w.heap.size, 2, none⟩ = some (.int .i64 pd) ∧ z.cell? ⟨w.heap.size, 3, none⟩ = some (.int .i64 gp) ∧ z.cell? ⟨w.heap.size + 1, 0, none⟩ = some (.bool false) ∧ z.cell? ⟨w.heap.size + 1, 1, none⟩ = some (.int .i64 s) ∧ z.cell? ⟨w.heap.size + 1, 2, none⟩ = some (.int .i64 e) ∧ Aside0 (BM k sz pd gp ⟨false, s, e⟩ w z)) (first | exact K | exact K0 | assumption)
    (first
    | (go_at_call 51; refine (winFn_any ⟨k, sz, pd, gp⟩ HF.out.s HF.out.p HF.out.g _).mono ?_; rintro e_ w1 ⟨g_, rfl, hg1, hg2, hb⟩; have K : w1.cell? ⟨w.heap.size, 0, none⟩ = some (.int .u8 k) ∧ w1.cell? ⟨w.heap.size, 1, none⟩ = some (.int .i64 sz) ∧ w1.cell? ⟨w.heap.size, 2, none⟩ = some (.int .i64 pd) ∧ w1.cell? ⟨w.heap.size, 3, none⟩ = some (.int .i64 gp) ∧ w1.cell? ⟨w.heap.size + 1, 0, none⟩ = some (.bool false) ∧ w1.cell? ⟨w.heap.size + 1, 1, none⟩ = some (.int .i64 s) ∧ w1.cell? ⟨w.heap.size + 1, 2, none⟩ = some (.int .i64 e) ∧ Aside0 (BM k sz pd gp ⟨false, s, e⟩ w w1) := BM.step (x := ⟨false, s, e⟩) hb (by assumption); have HG := Aside0.mk hg2; clear hg1 hg2 hb)
    | (go_at_call 60; refine (win_any ⟨false, s, e⟩ _).mono ?_; rintro e_ w2 ⟨rfl, hb⟩; have K : w2.cell? ⟨w.heap.size, 0, none⟩ = some (.int .u8 k) ∧ w2.cell? ⟨w.heap.size, 1, none⟩ = some (.int .i64 sz) ∧ w2.cell? ⟨w.heap.size, 2, none⟩ = some (.int .i64 pd) ∧ w2.cell? ⟨w.heap.size, 3, none⟩ = some (.int .i64 gp) ∧ w2.cell? ⟨w.heap.size + 1, 0, none⟩ = some (.bool false) ∧ w2.cell? ⟨w.heap.size + 1, 1, none⟩ = some (.int .i64 s) ∧ w2.cell? ⟨w.heap.size + 1, 2, none⟩ = some (.int .i64 e) ∧ Aside0 (BM k sz pd gp ⟨false, s, e⟩ w w2) := BM.step (x := ⟨false, s, e⟩) hb (by assumption); have HG2 := Aside0.mk (blk_below HG.out hb); clear HG hb; obtain ⟨t_, v_, hv_⟩ := ifv_iface ⟨false, s, e⟩; have HV := Aside0.mk hv_; rw [hv_]; clear hv_)
    | (go_at_call 65; rw [← HV.out]; refine (map65_none g_ ⟨k, sz, pd, gp⟩ s e _ HG2.out HF.out HL.out H0.out H1.out).mono ?_; rintro e_ w3 ⟨b3, rfl, hb⟩; have K : w3.cell? ⟨w.heap.size, 0, none⟩ = some (.int .u8 k) ∧ w3.cell? ⟨w.heap.size, 1, none⟩ = some (.int .i64 sz) ∧ w3.cell? ⟨w.heap.size, 2, none⟩ = some (.int .i64 pd) ∧ w3.cell? ⟨w.heap.size, 3, none⟩ = some (.int .i64 gp) ∧ w3.cell? ⟨w.heap.size + 1, 0, none⟩ = some (.bool false) ∧ w3.cell? ⟨w.heap.size + 1, 1, none⟩ = some (.int .i64 s) ∧ w3.cell? ⟨w.heap.size + 1, 2, none⟩ = some (.int .i64 e) ∧ Aside0 (BM k sz pd gp ⟨false, s, e⟩ w w3) := BM.step (x := ⟨false, s, e⟩) hb (by assumption); clear hb))
  all_goals
    have HM := K.2.2.2.2.2.2.2
    clear K K0
    have z0 := (blk_cell HM.out.2.2.1 0).trans (rfl : _ = some (Value.bool false))
    have z1 := (blk_cell HM.out.2.2.1 1).trans (rfl : _ = some (Value.int .i64 0))
    have z2 := (blk_cell HM.out.2.2.1 2).trans (rfl : _ = some (Value.int .i64 0))
    have f0 := blk_frozen HM.out.2.2.1 0
    have f1 := blk_frozen HM.out.2.2.1 1
    have f2 := blk_frozen HM.out.2.2.1 2
    have b1 := blk_set HM.out.2.2.1 0 (.bool false)
    have b2 := blk_set b1 1 (.int .i64 0)
    have b3 := blk_set b2 2 (.int .i64 0)
    have HB := Aside0.mk HM.out.2.2.2
    have r0 := (blk_cell b3 0).trans (rfl : _ = some (Value.bool false))
    have r1 := (blk_cell b3 1).trans (rfl : _ = some (Value.int .i64 0))
    have r2 := (blk_cell b3 2).trans (rfl : _ = some (Value.int .i64 0))
    clear b1 b2 b3
    go_wp2_with fail
    refine bodyPost_ret (by simp [results, Try.results42, go_sem, r0, r1, r2]; try rfl) rfl ?_
    exact ⟨rfl, by repeat (first | exact HB.out | refine below_set ?_ (show w.heap.size ≤ w.heap.size + 1 + 1 by omega))⟩
end Go.Proofs.Ytdifeleddhefnaa
