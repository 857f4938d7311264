/- The walk of FnWinEqual. -/
import Derived.Test.YtdifeleddhefnaaLst
import Derived.Test.YtdifeleddhefnaaPl
import Derived.Test.YtdifeleddhefnaaAwake
set_option linter.unusedVariables false
set_option linter.unusedSimpArgs false
namespace Go.Proofs.Ytdifeleddhefnaa
open Go.RowKit Go.Proofs.YtdifeleddhefnaaW.PrintWords
attribute [local go_sem high] eqA50 eqA36

theorem winEqualList_any (A0 : Option Addr) (c0 : Nat) (l0 : List Sp) (A1 : Option Addr) (c1 : Nat) (l1 : List Sp) (w : World) (hr0 : Kd.C kSp w A0 l0.length l0) (hc0 : l0.length ≤ c0) (hr1 : Kd.C kSp w A1 l1.length l1) (hc1 : l1.length ≤ c1) (h0 : l0.length ≤ 1000000) (h1 : l1.length ≤ 1000000) :
    Calls Try.prog 43 #[.slice A0 l0.length c0, .slice A1 l1.length c1] w fun e w' => e = .returned (.bool (decide (l0.map nz = l1.map nz))) ∧ Below w.heap.size w w' := by
  have HR0 := Aside0.mk hr0
  have HR1 := Aside0.mk hr1
  clear hr0 hr1
  go_enter Try.func43, Try.ntmps43
  go_wp2_with (first
    | (go_at_call 68; refine (wins_any _ _ l0 _ HR0.out hc0 (by omega)).mono ?_; rintro e_ w1 ⟨v_, rfl, hR, hb⟩; have HB := Aside0.mk hb; have HR1' := Aside0.mk (Kd.C_below HR1.out hb); obtain ⟨B_, d_, hv_, hd_, hC_⟩ := Kd.R_reads hR; subst hv_; have HX := Aside0.mk hC_; have HDX := Aside0.mk hd_; clear hR hC_ hd_ hb HR0)
    | (go_at_call 68; refine (wins_any _ _ l1 _ HR1'.out hc1 (by omega)).mono ?_; rintro e_ w2 ⟨v_, rfl, hR, hb⟩; have HB2 := Aside0.mk (below_then HB.out HB.out.size hb); have HX2 := Aside0.mk (Kd.C_below HX.out hb); obtain ⟨D_, f_, hv_, hd_, hC_⟩ := Kd.R_reads hR; subst hv_; have HY := Aside0.mk hC_; have HDY := Aside0.mk hd_; clear hR hC_ hd_ hb HX)
    | (go_at_call 67; refine (isEqualList_any _ _ l0 _ _ l1 _ HX2.out HDX.out HY.out HDY.out h0).mono ?_; rintro e_ w3 ⟨rfl, hb⟩; have HB3 := Aside0.mk (below_then HB2.out HB2.out.size hb); clear hb))
  go_ret
  exact ⟨rfl, HB3.out⟩
theorem map_nz_id {l : List Sp} (h : ∀ x ∈ l, isSp x = true) : l.map nz = l := by
  conv => rhs; rw [← List.map_id l]
  exact List.map_congr_left (fun x hx => isSp_nz (h x hx))
theorem eqST {x y : Sp} (h : x = y) : ∀ W : World, (Op.equalIn 10000 50 (.agg #[.bool x.g, .int .i64 x.s, .int .i64 x.e]) (.agg #[.bool y.g, .int .i64 y.s, .int .i64 y.e])).run Try.prog W = .ok true W := by
  subst h; intro W; rw [eqA50]; simp
theorem eqSF {x y : Sp} (h : ¬ x = y) : ∀ W : World, (Op.equalIn 10000 50 (.agg #[.bool x.g, .int .i64 x.s, .int .i64 x.e]) (.agg #[.bool y.g, .int .i64 y.s, .int .i64 y.e])).run Try.prog W = .ok false W := by
  intro W
  rw [eqA50]
  have q := ne_spT h
  have r : (x.g == y.g && (x.s == y.s && x.e == y.e)) = false := by
    cases hh : (x.g == y.g && (x.s == y.s && x.e == y.e))
    · rfl
    · simp only [Bool.and_eq_true] at hh
      simp [hh.1, hh.2.1, hh.2.2] at q
  rw [r]
set_option maxRecDepth 100000 in
set_option maxHeartbeats 8000000 in
theorem winEqual_core (A0 : Option Addr) (c0 : Nat) (l0 : List Sp) (A1 : Option Addr) (c1 : Nat) (l1 : List Sp) (w : World) (hr0 : Kd.C kSp w A0 l0.length l0) (hc0 : l0.length ≤ c0) (hr1 : Kd.C kSp w A1 l1.length l1) (hc1 : l1.length ≤ c1) (h0 : (l0.length : Int) ≤ 12) (h1 : (l1.length : Int) ≤ 12) :
    Calls Try.prog 15 #[.slice A0 l0.length c0, .slice A1 l1.length c1] w fun e w' => e = .returned (.bool true) ∧ Below w.heap.size w w' := by
  have HR0 := Aside0.mk hr0
  have HR1 := Aside0.mk hr1
  have HC0 := Aside0.mk hc0
  have HC1 := Aside0.mk hc1
  clear hr0 hr1 hc0 hc1
  have HB := Aside0.mk (Below.refl w.heap.size w)
  go_enter Try.func15, Try.ntmps15
  go_wp2
  go_loopg [5, 31] l0.length (fun kq v5 v31 w' => ∃ k : Nat, k ≤ l0.length ∧ Aside0 (kq = l0.length - k) ∧ v31 = .int .i64 k ∧ Aside0 (Kd.R kSp 36 w' w.heap.size (fun _ => True) v5 (l0.take k)) ∧ Aside0 (Below w.heap.size w w') ∧ Aside0 (∀ x ∈ l0.take k, isSp x = true))
  case atStart => exact ⟨0, Nat.zero_le _, ⟨by simp⟩, rfl, ⟨Kd.R_nil _ _ _ _ _⟩, HB, ⟨by simp⟩⟩
  case round =>
    clear HB
    obtain ⟨k, hk, hq, rfl, HO, HB, HI⟩ := hrel
    by_cases hlt : k < l0.length
    · obtain ⟨ad, e104, hx0, hx1, hx2⟩ := atSp HR0.out k hlt
      cases e104
      replace hx0 := (HB.out.cell (World.block_lt_of_cell? w _ hx0)).trans hx0
      replace hx1 := (HB.out.cell (World.block_lt_of_cell? w _ hx1)).trans hx1
      replace hx2 := (HB.out.cell (World.block_lt_of_cell? w _ hx2)).trans hx2
      have hts := Aside0.mk (take_succ l0 k hlt)
      have htl := Aside0.mk (List.length_take_of_le hk)
      cases hS' : isSp (rdSp l0 k)
      · have hS := Aside0.mk hS'
        clear hS'
        go_wp2_with (first | ((with_reducible refine gate_dst (N := 8) rfl ?_); refine box_event ?hg (N := 8) ?hd (cs := #[.bool false, .int .i64 0, .int .i64 0]) (t := 50) ?hr ?_; (case hd => rfl); (case hg => rfl); (case hr => first | (go_simp; done) | (go_simp; rfl)); intro gb hg w6 hbox hb; have n0_ := Aside0.mk (Kd.R_below (by (with_reducible repeat (first | apply Kd.R_alloc | apply Kd.R_drewN | apply Kd.R_drew)); exact HO.out) hb); have n1_ := Aside0.mk (below_step (by repeat (first | (with_reducible first | exact HB.out | apply below_alloc | apply pw_below_drewN | apply below_drew1) | exact HB.out)) hb); have BK := Aside0.mk (hbox); have GE := Aside0.mk ((by rw [hg]; exact (below_size (by repeat (first | (with_reducible first | exact HB.out | apply below_alloc | apply pw_below_drewN | apply below_drew1) | exact HB.out)))) : w.heap.size ≤ gb); clear HO; have HO := n0_; clear n0_; clear HB; have HB := n1_; clear n1_; clear hb hbox hg; have hcz_0 : w6.cell? ⟨gb, 0, none⟩ = some (.bool false) := (blk_cell BK.out 0).trans rfl; have hfz_0 := blk_frozen BK.out 0; have hcz_1 : w6.cell? ⟨gb, 1, none⟩ = some (.int .i64 0) := (blk_cell BK.out 1).trans rfl; have hfz_1 := blk_frozen BK.out 1; have hcz_2 : w6.cell? ⟨gb, 2, none⟩ = some (.int .i64 0) := (blk_cell BK.out 2).trans rfl; have hfz_2 := blk_frozen BK.out 2) | (go_at_call 40; (with_reducible refine (isSpan_any (rdSp l0 k) _).mono ?_); rintro e w7 ⟨rfl, hb7⟩; rw [hS.out]; have n1_ := Aside0.mk (below_then (by repeat (first | (with_reducible first | exact HB.out | apply below_alloc | apply pw_below_drewN | apply below_drew1 | refine below_set ?_ GE.out) | exact HB.out)) (below_size (by repeat (first | (with_reducible first | exact HB.out | apply below_alloc | apply pw_below_drewN | apply below_drew1 | refine below_set ?_ GE.out) | exact HB.out))) hb7); have n2_ := Aside0.mk (Kd.R_below (by (with_reducible repeat (first | apply Kd.R_alloc | apply Kd.R_drewN | apply Kd.R_drew)); exact Kd.R_mono (Kd.R_far (p := ⟨gb, 2, none⟩) (Kd.R_far (p := ⟨gb, 1, none⟩) (Kd.R_far (p := ⟨gb, 0, none⟩) (Kd.R_types HO.out BK.out (by decide)) (fun _ hk => hk.2) (.bool (rdSp l0 k).g)) (fun _ hk => hk.2) (.int .i64 (rdSp l0 k).s)) (fun _ hk => hk.2) (.int .i64 (rdSp l0 k).e)) (fun _ hk => trivial)) hb7); have n3_ := Aside0.mk (blk_below (blk_set (blk_set (blk_set BK.out 0 (.bool (rdSp l0 k).g)) 1 (.int .i64 (rdSp l0 k).s)) 2 (.int .i64 (rdSp l0 k).e)) hb7); clear BK HB HO hb7; have HB := n1_; have HO := n2_; have yz_0 : w7.cell? ⟨gb, 0, none⟩ = some (.bool (rdSp l0 k).g) := (blk_cell n3_.out 0).trans rfl; have yz_1 : w7.cell? ⟨gb, 1, none⟩ = some (.int .i64 (rdSp l0 k).s) := (blk_cell n3_.out 1).trans rfl; have yz_2 : w7.cell? ⟨gb, 2, none⟩ = some (.int .i64 (rdSp l0 k).e) := (blk_cell n3_.out 2).trans rfl; clear n1_ n2_ n3_))
        go_ret
        exact ⟨rfl, HB.out⟩
      · have hS := Aside0.mk hS'
        clear hS'
        have HI' := Aside0.mk (show ∀ x ∈ l0.take (k + 1), isSp x = true by rw [hts.out]; intro x hx; rcases List.mem_append.1 hx with hx | hx; exact HI.out x hx; rw [List.mem_singleton.1 hx]; exact hS.out)
        clear HI
        go_wp2_with (first | ((with_reducible refine gate_dst (N := 8) rfl ?_); refine box_event ?hg (N := 8) ?hd (cs := #[.bool false, .int .i64 0, .int .i64 0]) (t := 50) ?hr ?_; (case hd => rfl); (case hg => rfl); (case hr => first | (go_simp; done) | (go_simp; rfl)); intro gb hg w6 hbox hb; have n0_ := Aside0.mk (Kd.R_below (by (with_reducible repeat (first | apply Kd.R_alloc | apply Kd.R_drewN | apply Kd.R_drew)); exact HO.out) hb); have n1_ := Aside0.mk (below_step (by repeat (first | (with_reducible first | exact HB.out | apply below_alloc | apply pw_below_drewN | apply below_drew1) | exact HB.out)) hb); have BK := Aside0.mk (hbox); have GE := Aside0.mk ((by rw [hg]; exact (below_size (by repeat (first | (with_reducible first | exact HB.out | apply below_alloc | apply pw_below_drewN | apply below_drew1) | exact HB.out)))) : w.heap.size ≤ gb); clear HO; have HO := n0_; clear n0_; clear HB; have HB := n1_; clear n1_; clear hb hbox hg; have hcz_0 : w6.cell? ⟨gb, 0, none⟩ = some (.bool false) := (blk_cell BK.out 0).trans rfl; have hfz_0 := blk_frozen BK.out 0; have hcz_1 : w6.cell? ⟨gb, 1, none⟩ = some (.int .i64 0) := (blk_cell BK.out 1).trans rfl; have hfz_1 := blk_frozen BK.out 1; have hcz_2 : w6.cell? ⟨gb, 2, none⟩ = some (.int .i64 0) := (blk_cell BK.out 2).trans rfl; have hfz_2 := blk_frozen BK.out 2) | (go_at_call 40; (with_reducible refine (isSpan_any (rdSp l0 k) _).mono ?_); rintro e w7 ⟨rfl, hb7⟩; rw [hS.out]; have n1_ := Aside0.mk (below_then (by repeat (first | (with_reducible first | exact HB.out | apply below_alloc | apply pw_below_drewN | apply below_drew1 | refine below_set ?_ GE.out) | exact HB.out)) (below_size (by repeat (first | (with_reducible first | exact HB.out | apply below_alloc | apply pw_below_drewN | apply below_drew1 | refine below_set ?_ GE.out) | exact HB.out))) hb7); have n2_ := Aside0.mk (Kd.R_below (by (with_reducible repeat (first | apply Kd.R_alloc | apply Kd.R_drewN | apply Kd.R_drew)); exact Kd.R_mono (Kd.R_far (p := ⟨gb, 2, none⟩) (Kd.R_far (p := ⟨gb, 1, none⟩) (Kd.R_far (p := ⟨gb, 0, none⟩) (Kd.R_types HO.out BK.out (by decide)) (fun _ hk => hk.2) (.bool (rdSp l0 k).g)) (fun _ hk => hk.2) (.int .i64 (rdSp l0 k).s)) (fun _ hk => hk.2) (.int .i64 (rdSp l0 k).e)) (fun _ hk => trivial)) hb7); have n3_ := Aside0.mk (blk_below (blk_set (blk_set (blk_set BK.out 0 (.bool (rdSp l0 k).g)) 1 (.int .i64 (rdSp l0 k).s)) 2 (.int .i64 (rdSp l0 k).e)) hb7); clear BK HB HO hb7; have HB := n1_; have HO := n2_; have yz_0 : w7.cell? ⟨gb, 0, none⟩ = some (.bool (rdSp l0 k).g) := (blk_cell n3_.out 0).trans rfl; have yz_1 : w7.cell? ⟨gb, 1, none⟩ = some (.int .i64 (rdSp l0 k).s) := (blk_cell n3_.out 1).trans rfl; have yz_2 : w7.cell? ⟨gb, 2, none⟩ = some (.int .i64 (rdSp l0 k).e) := (blk_cell n3_.out 2).trans rfl; clear n1_ n2_ n3_) | ((with_reducible refine gate_builtin (b := .append) (xs := #[.tmp 38, .tmp 40]) rfl ?_); at_builtin; refine Kd.R_append kSp (w0 := w) w.heap.size rfl (.tmp 38) (.tmp 40) 28 36 (.agg #[(.bool false), (.int .i64 0), (.int .i64 0)]) 24 rfl Try.underlying28 info36 rfl (by decide) (by omega) u5 (l0.take k) (rdSp l0 k) [.bool (rdSp l0 k).g, .int .i64 (rdSp l0 k).s, .int .i64 (rdSp l0 k).e] (fun _ => True) (fun _ => False) rfl (by first | (go_simp; done) | (go_simp; rfl)) ?aP (fun _ hk => hk.elim) ?aF ?aO ?aB ?aS ?aL ?_; (case aP => exact kSp_mkM _ _ _ _); (case aB => exact (by repeat (first | (with_reducible first | exact HB.out | apply below_alloc | apply pw_below_drewN | apply below_drew1) | exact HB.out))); (case aF => exact (fun _ _ => trivial)); (case aO => exact (by (with_reducible repeat (first | apply Kd.R_alloc | apply Kd.R_drewN | apply Kd.R_drew)); exact HO.out)); (case aS => exact (below_size (by repeat (first | (with_reducible first | exact HB.out | apply below_alloc | apply pw_below_drewN | apply below_drew1) | exact HB.out)))); (case aL => have := htl.out; omega); intro v107 w8 ho hb hg hat; rw [← hts.out] at ho; have n1_ := Aside0.mk (hb); have n2_ := Aside0.mk (ho); clear HB; clear HO; have HB := n1_; have HO := n2_; clear n1_ n2_; clear ho hb hg hat))
        go_roundg (l0.length - (k + 1))
        case measure => have := hq.out; omega
        case rel => exact ⟨k + 1, by omega, ⟨rfl⟩, by go_num, HO, HB, HI'⟩
    · have hkl : Aside0 (k = l0.length) := ⟨by omega⟩
      have HO' := HO.out
      have HI' := HI.out
      rw [hkl.out, List.take_length] at HO' HI'
      obtain ⟨X_, cx_, hv_, hcx_, hX_⟩ := reads_sp HO'
      subst hv_
      have HIx := HI'
      obtain ⟨wB, rfl⟩ : ∃ x, x = wr := ⟨_, rfl⟩
      have HBx := HB
      have HR1b := Aside0.mk (Kd.C_below HR1.out HB.out)
      clear HB HO HI HO' HI' hkl hq
      have HB := Aside0.mk (Below.refl wB.heap.size wB)
      go_wp2
      go_loopg [6, 45] l1.length (fun kq v6 v45 w' => ∃ k : Nat, k ≤ l1.length ∧ Aside0 (kq = l1.length - k) ∧ v45 = .int .i64 k ∧ Aside0 (Kd.R kSp 36 w' wB.heap.size (fun _ => True) v6 (l1.take k)) ∧ Aside0 (Below wB.heap.size wB w') ∧ Aside0 (∀ x ∈ l1.take k, isSp x = true))
      case atStart => exact ⟨0, Nat.zero_le _, ⟨by simp⟩, rfl, ⟨Kd.R_nil _ _ _ _ _⟩, HB, ⟨by simp⟩⟩
      case round =>
        clear HB
        obtain ⟨k, hk, hq, rfl, HO, HB, HI⟩ := hrel
        by_cases hlt : k < l1.length
        · obtain ⟨ad, e104, hx0, hx1, hx2⟩ := atSp HR1b.out k hlt
          cases e104
          replace hx0 := (HB.out.cell (World.block_lt_of_cell? wB _ hx0)).trans hx0
          replace hx1 := (HB.out.cell (World.block_lt_of_cell? wB _ hx1)).trans hx1
          replace hx2 := (HB.out.cell (World.block_lt_of_cell? wB _ hx2)).trans hx2
          have hts := Aside0.mk (take_succ l1 k hlt)
          have htl := Aside0.mk (List.length_take_of_le hk)
          cases hS' : isSp (rdSp l1 k)
          · have hS := Aside0.mk hS'
            clear hS'
            go_wp2_with (first | ((with_reducible refine gate_dst (N := 10) rfl ?_); refine box_event ?hg (N := 10) ?hd (cs := #[.bool false, .int .i64 0, .int .i64 0]) (t := 50) ?hr ?_; (case hd => rfl); (case hg => rfl); (case hr => first | (go_simp; done) | (go_simp; rfl)); intro gb hg w6 hbox hb; have n0_ := Aside0.mk (Kd.R_below (by (with_reducible repeat (first | apply Kd.R_alloc | apply Kd.R_drewN | apply Kd.R_drew)); exact HO.out) hb); have n1_ := Aside0.mk (below_step (by repeat (first | (with_reducible first | exact HB.out | apply below_alloc | apply pw_below_drewN | apply below_drew1) | exact HB.out)) hb); have BK := Aside0.mk (hbox); have GE := Aside0.mk ((by rw [hg]; exact (below_size (by repeat (first | (with_reducible first | exact HB.out | apply below_alloc | apply pw_below_drewN | apply below_drew1) | exact HB.out)))) : wB.heap.size ≤ gb); clear HO; have HO := n0_; clear n0_; clear HB; have HB := n1_; clear n1_; clear hb hbox hg; have hcz_0 : w6.cell? ⟨gb, 0, none⟩ = some (.bool false) := (blk_cell BK.out 0).trans rfl; have hfz_0 := blk_frozen BK.out 0; have hcz_1 : w6.cell? ⟨gb, 1, none⟩ = some (.int .i64 0) := (blk_cell BK.out 1).trans rfl; have hfz_1 := blk_frozen BK.out 1; have hcz_2 : w6.cell? ⟨gb, 2, none⟩ = some (.int .i64 0) := (blk_cell BK.out 2).trans rfl; have hfz_2 := blk_frozen BK.out 2) | (go_at_call 40; (with_reducible refine (isSpan_any (rdSp l1 k) _).mono ?_); rintro e w7 ⟨rfl, hb7⟩; rw [hS.out]; have n1_ := Aside0.mk (below_then (by repeat (first | (with_reducible first | exact HB.out | apply below_alloc | apply pw_below_drewN | apply below_drew1 | refine below_set ?_ GE.out) | exact HB.out)) (below_size (by repeat (first | (with_reducible first | exact HB.out | apply below_alloc | apply pw_below_drewN | apply below_drew1 | refine below_set ?_ GE.out) | exact HB.out))) hb7); have n2_ := Aside0.mk (Kd.R_below (by (with_reducible repeat (first | apply Kd.R_alloc | apply Kd.R_drewN | apply Kd.R_drew)); exact Kd.R_mono (Kd.R_far (p := ⟨gb, 2, none⟩) (Kd.R_far (p := ⟨gb, 1, none⟩) (Kd.R_far (p := ⟨gb, 0, none⟩) (Kd.R_types HO.out BK.out (by decide)) (fun _ hk => hk.2) (.bool (rdSp l1 k).g)) (fun _ hk => hk.2) (.int .i64 (rdSp l1 k).s)) (fun _ hk => hk.2) (.int .i64 (rdSp l1 k).e)) (fun _ hk => trivial)) hb7); have n3_ := Aside0.mk (blk_below (blk_set (blk_set (blk_set BK.out 0 (.bool (rdSp l1 k).g)) 1 (.int .i64 (rdSp l1 k).s)) 2 (.int .i64 (rdSp l1 k).e)) hb7); clear BK HB HO hb7; have HB := n1_; have HO := n2_; have yz_0 : w7.cell? ⟨gb, 0, none⟩ = some (.bool (rdSp l1 k).g) := (blk_cell n3_.out 0).trans rfl; have yz_1 : w7.cell? ⟨gb, 1, none⟩ = some (.int .i64 (rdSp l1 k).s) := (blk_cell n3_.out 1).trans rfl; have yz_2 : w7.cell? ⟨gb, 2, none⟩ = some (.int .i64 (rdSp l1 k).e) := (blk_cell n3_.out 2).trans rfl; clear n1_ n2_ n3_))
            go_ret
            exact ⟨rfl, below_then HBx.out HBx.out.size HB.out⟩
          · have hS := Aside0.mk hS'
            clear hS'
            have HI' := Aside0.mk (show ∀ x ∈ l1.take (k + 1), isSp x = true by rw [hts.out]; intro x hx; rcases List.mem_append.1 hx with hx | hx; exact HI.out x hx; rw [List.mem_singleton.1 hx]; exact hS.out)
            clear HI
            go_wp2_with (first | ((with_reducible refine gate_dst (N := 10) rfl ?_); refine box_event ?hg (N := 10) ?hd (cs := #[.bool false, .int .i64 0, .int .i64 0]) (t := 50) ?hr ?_; (case hd => rfl); (case hg => rfl); (case hr => first | (go_simp; done) | (go_simp; rfl)); intro gb hg w6 hbox hb; have n0_ := Aside0.mk (Kd.R_below (by (with_reducible repeat (first | apply Kd.R_alloc | apply Kd.R_drewN | apply Kd.R_drew)); exact HO.out) hb); have n1_ := Aside0.mk (below_step (by repeat (first | (with_reducible first | exact HB.out | apply below_alloc | apply pw_below_drewN | apply below_drew1) | exact HB.out)) hb); have BK := Aside0.mk (hbox); have GE := Aside0.mk ((by rw [hg]; exact (below_size (by repeat (first | (with_reducible first | exact HB.out | apply below_alloc | apply pw_below_drewN | apply below_drew1) | exact HB.out)))) : wB.heap.size ≤ gb); clear HO; have HO := n0_; clear n0_; clear HB; have HB := n1_; clear n1_; clear hb hbox hg; have hcz_0 : w6.cell? ⟨gb, 0, none⟩ = some (.bool false) := (blk_cell BK.out 0).trans rfl; have hfz_0 := blk_frozen BK.out 0; have hcz_1 : w6.cell? ⟨gb, 1, none⟩ = some (.int .i64 0) := (blk_cell BK.out 1).trans rfl; have hfz_1 := blk_frozen BK.out 1; have hcz_2 : w6.cell? ⟨gb, 2, none⟩ = some (.int .i64 0) := (blk_cell BK.out 2).trans rfl; have hfz_2 := blk_frozen BK.out 2) | (go_at_call 40; (with_reducible refine (isSpan_any (rdSp l1 k) _).mono ?_); rintro e w7 ⟨rfl, hb7⟩; rw [hS.out]; have n1_ := Aside0.mk (below_then (by repeat (first | (with_reducible first | exact HB.out | apply below_alloc | apply pw_below_drewN | apply below_drew1 | refine below_set ?_ GE.out) | exact HB.out)) (below_size (by repeat (first | (with_reducible first | exact HB.out | apply below_alloc | apply pw_below_drewN | apply below_drew1 | refine below_set ?_ GE.out) | exact HB.out))) hb7); have n2_ := Aside0.mk (Kd.R_below (by (with_reducible repeat (first | apply Kd.R_alloc | apply Kd.R_drewN | apply Kd.R_drew)); exact Kd.R_mono (Kd.R_far (p := ⟨gb, 2, none⟩) (Kd.R_far (p := ⟨gb, 1, none⟩) (Kd.R_far (p := ⟨gb, 0, none⟩) (Kd.R_types HO.out BK.out (by decide)) (fun _ hk => hk.2) (.bool (rdSp l1 k).g)) (fun _ hk => hk.2) (.int .i64 (rdSp l1 k).s)) (fun _ hk => hk.2) (.int .i64 (rdSp l1 k).e)) (fun _ hk => trivial)) hb7); have n3_ := Aside0.mk (blk_below (blk_set (blk_set (blk_set BK.out 0 (.bool (rdSp l1 k).g)) 1 (.int .i64 (rdSp l1 k).s)) 2 (.int .i64 (rdSp l1 k).e)) hb7); clear BK HB HO hb7; have HB := n1_; have HO := n2_; have yz_0 : w7.cell? ⟨gb, 0, none⟩ = some (.bool (rdSp l1 k).g) := (blk_cell n3_.out 0).trans rfl; have yz_1 : w7.cell? ⟨gb, 1, none⟩ = some (.int .i64 (rdSp l1 k).s) := (blk_cell n3_.out 1).trans rfl; have yz_2 : w7.cell? ⟨gb, 2, none⟩ = some (.int .i64 (rdSp l1 k).e) := (blk_cell n3_.out 2).trans rfl; clear n1_ n2_ n3_) | ((with_reducible refine gate_builtin (b := .append) (xs := #[.tmp 52, .tmp 54]) rfl ?_); at_builtin; refine Kd.R_append kSp (w0 := wB) wB.heap.size rfl (.tmp 52) (.tmp 54) 28 36 (.agg #[(.bool false), (.int .i64 0), (.int .i64 0)]) 24 rfl Try.underlying28 info36 rfl (by decide) (by omega) u6 (l1.take k) (rdSp l1 k) [.bool (rdSp l1 k).g, .int .i64 (rdSp l1 k).s, .int .i64 (rdSp l1 k).e] (fun _ => True) (fun _ => False) rfl (by first | (go_simp; done) | (go_simp; rfl)) ?aP (fun _ hk => hk.elim) ?aF ?aO ?aB ?aS ?aL ?_; (case aP => exact kSp_mkM _ _ _ _); (case aB => exact (by repeat (first | (with_reducible first | exact HB.out | apply below_alloc | apply pw_below_drewN | apply below_drew1) | exact HB.out))); (case aF => exact (fun _ _ => trivial)); (case aO => exact (by (with_reducible repeat (first | apply Kd.R_alloc | apply Kd.R_drewN | apply Kd.R_drew)); exact HO.out)); (case aS => exact (below_size (by repeat (first | (with_reducible first | exact HB.out | apply below_alloc | apply pw_below_drewN | apply below_drew1) | exact HB.out)))); (case aL => have := htl.out; omega); intro v107 w8 ho hb hg hat; rw [← hts.out] at ho; have n1_ := Aside0.mk (hb); have n2_ := Aside0.mk (ho); clear HB; clear HO; have HB := n1_; have HO := n2_; clear n1_ n2_; clear ho hb hg hat))
            go_roundg (l1.length - (k + 1))
            case measure => have := hq.out; omega
            case rel => exact ⟨k + 1, by omega, ⟨rfl⟩, by go_num, HO, HB, HI'⟩
        · have hkl : Aside0 (k = l1.length) := ⟨by omega⟩
          have HO' := HO.out
          have HI' := HI.out
          rw [hkl.out, List.take_length] at HO' HI'
          have HX := Aside0.mk (Kd.C_below hX_ HB.out)
          obtain ⟨Y_, cy_, hv_, hcy_, hY_⟩ := reads_sp HO'
          subst hv_
          have HY := Aside0.mk hY_
          have HCX := Aside0.mk hcx_
          have HCY := Aside0.mk hcy_
          have HIX := Aside0.mk HIx
          have HIY := Aside0.mk HI'
          have HW := Aside0.mk (below_then HBx.out HBx.out.size HB.out)
          clear HB hX_ hY_ hcx_ hcy_ HIx HI' HO HI HO' hkl HBx
          have HB := HW
          clear HW
          go_wp2
          go_loopg [59] l0.length (fun kq v59 w' => ∃ i : Nat, i ≤ l0.length ∧ Aside0 (kq = l0.length - i) ∧ v59 = .int .i64 i ∧ Aside0 (Below w.heap.size w w') ∧ Aside0 (Kd.C kSp w' X_ l0.length l0) ∧ Aside0 (Kd.C kSp w' Y_ l1.length l1))
          case atStart => exact ⟨0, Nat.zero_le _, ⟨by simp⟩, rfl, HB, HX, HY⟩
          case round =>
            clear HB HX HY
            obtain ⟨i, hi, hq1, rfl, HB, HX, HY⟩ := hrel
            by_cases hlt : i < l0.length
            · obtain ⟨xd, ex, c0_, c1_, c2_⟩ := atSp HX.out i hlt
              cases ex
              clear c0_ c1_ c2_
              obtain ⟨ad, ea, c0_, c1_, c2_⟩ := atSp HR0.out i hlt
              cases ea
              clear c0_ c1_ c2_
              go_wp2
              go_loopg [64] l1.length (fun kq v64 w' => ∃ j : Nat, j ≤ l1.length ∧ Aside0 (kq = l1.length - j) ∧ v64 = .int .i64 j ∧ Aside0 (Below w.heap.size w w') ∧ Aside0 (Kd.C kSp w' (some xd) l0.length l0) ∧ Aside0 (Kd.C kSp w' Y_ l1.length l1))
              case atStart => exact ⟨0, Nat.zero_le _, ⟨by simp⟩, rfl, HB, HX, HY⟩
              case round =>
                clear HB HX HY
                obtain ⟨j, hj, hq2, rfl, HB, HX, HY⟩ := hrel
                by_cases hlt2 : j < l1.length
                · obtain ⟨xd', ex, c0, c1, c2⟩ := atSp HX.out i hlt
                  cases ex
                  obtain ⟨yd, ey, d0, d1, d2⟩ := atSp HY.out j hlt2
                  cases ey
                  obtain ⟨ad', ea, a0, a1, a2⟩ := atSp HR0.out i hlt
                  cases ea
                  obtain ⟨bd, eb, b0, b1, b2⟩ := atSp HR1.out j hlt2
                  cases eb
                  replace a0 := (HB.out.cell (World.block_lt_of_cell? w _ a0)).trans a0
                  replace a1 := (HB.out.cell (World.block_lt_of_cell? w _ a1)).trans a1
                  replace a2 := (HB.out.cell (World.block_lt_of_cell? w _ a2)).trans a2
                  replace b0 := (HB.out.cell (World.block_lt_of_cell? w _ b0)).trans b0
                  replace b1 := (HB.out.cell (World.block_lt_of_cell? w _ b1)).trans b1
                  replace b2 := (HB.out.cell (World.block_lt_of_cell? w _ b2)).trans b2
                  have QX := Aside0.mk (HIX.out _ (rdSp_mem hlt))
                  have QY := Aside0.mk (HIY.out _ (rdSp_mem hlt2))
                  have q0 : (i : Int) < (l0.length : Int) := by omega
                  have q1 : (j : Int) < (l1.length : Int) := by omega
                  have q2 : (0 : Int) ≤ (i : Int) := by omega
                  have q3 : (0 : Int) ≤ (j : Int) := by omega
                  generalize rdSp l0 i = x at *
                  generalize rdSp l1 j = y at *
                  by_cases HE : x = y
                  · have hVq := Aside0.mk (show sameW x y = true by rw [show sameW x y = decide (x = y) from by unfold sameW; rw [isSp_nz QX.out, isSp_nz QY.out]]; simp [HE])
                    have hEq := eqST HE
                    clear HE
                    have BS := Aside0.mk (fun (W' : World) (hb : Below wr.drew.heap.size wr.drew W') => (⟨below_then (below_drew HB.out) (below_drew HB.out).size hb, Kd.C_below HX.out ((below_drew (Below.refl wr.heap.size wr)).trans hb), Kd.C_below HY.out ((below_drew (Below.refl wr.heap.size wr)).trans hb)⟩ : Below w.heap.size w W' ∧ Kd.C kSp W' (some xd) l0.length l0 ∧ Kd.C kSp W' (some yd) l1.length l1))
                    have KS := Aside0.mk (fun (W' : World) (hb : Below wr.drew.heap.size wr.drew W') => (⟨(hb.cell (World.block_lt_of_cell? wr.drew _ c0)).trans c0, (hb.cell (World.block_lt_of_cell? wr.drew _ c1)).trans c1, (hb.cell (World.block_lt_of_cell? wr.drew _ c2)).trans c2, (hb.cell (World.block_lt_of_cell? wr.drew _ d0)).trans d0, (hb.cell (World.block_lt_of_cell? wr.drew _ d1)).trans d1, (hb.cell (World.block_lt_of_cell? wr.drew _ d2)).trans d2, (hb.cell (World.block_lt_of_cell? wr.drew _ a0)).trans a0, (hb.cell (World.block_lt_of_cell? wr.drew _ a1)).trans a1, (hb.cell (World.block_lt_of_cell? wr.drew _ a2)).trans a2, (hb.cell (World.block_lt_of_cell? wr.drew _ b0)).trans b0, (hb.cell (World.block_lt_of_cell? wr.drew _ b1)).trans b1, (hb.cell (World.block_lt_of_cell? wr.drew _ b2)).trans b2, ⟨below_then (below_drew HB.out) (below_drew HB.out).size hb⟩⟩ : W'.cell? (xd.add (i * 3)) = some (.bool x.g) ∧ W'.cell? ⟨(xd.add (i * 3)).block, (xd.add (i * 3)).off + 1, none⟩ = some (.int .i64 x.s) ∧ W'.cell? ⟨(xd.add (i * 3)).block, (xd.add (i * 3)).off + 2, none⟩ = some (.int .i64 x.e) ∧ W'.cell? (yd.add (j * 3)) = some (.bool y.g) ∧ W'.cell? ⟨(yd.add (j * 3)).block, (yd.add (j * 3)).off + 1, none⟩ = some (.int .i64 y.s) ∧ W'.cell? ⟨(yd.add (j * 3)).block, (yd.add (j * 3)).off + 2, none⟩ = some (.int .i64 y.e) ∧ W'.cell? (ad.add (i * 3)) = some (.bool x.g) ∧ W'.cell? ⟨(ad.add (i * 3)).block, (ad.add (i * 3)).off + 1, none⟩ = some (.int .i64 x.s) ∧ W'.cell? ⟨(ad.add (i * 3)).block, (ad.add (i * 3)).off + 2, none⟩ = some (.int .i64 x.e) ∧ W'.cell? (bd.add (j * 3)) = some (.bool y.g) ∧ W'.cell? ⟨(bd.add (j * 3)).block, (bd.add (j * 3)).off + 1, none⟩ = some (.int .i64 y.s) ∧ W'.cell? ⟨(bd.add (j * 3)).block, (bd.add (j * 3)).off + 2, none⟩ = some (.int .i64 y.e) ∧ Aside0 (Below w.heap.size w W')))
                    have K0 : wr.drew.cell? (xd.add (i * 3)) = some (.bool x.g) ∧ wr.drew.cell? ⟨(xd.add (i * 3)).block, (xd.add (i * 3)).off + 1, none⟩ = some (.int .i64 x.s) ∧ wr.drew.cell? ⟨(xd.add (i * 3)).block, (xd.add (i * 3)).off + 2, none⟩ = some (.int .i64 x.e) ∧ wr.drew.cell? (yd.add (j * 3)) = some (.bool y.g) ∧ wr.drew.cell? ⟨(yd.add (j * 3)).block, (yd.add (j * 3)).off + 1, none⟩ = some (.int .i64 y.s) ∧ wr.drew.cell? ⟨(yd.add (j * 3)).block, (yd.add (j * 3)).off + 2, none⟩ = some (.int .i64 y.e) ∧ wr.drew.cell? (ad.add (i * 3)) = some (.bool x.g) ∧ wr.drew.cell? ⟨(ad.add (i * 3)).block, (ad.add (i * 3)).off + 1, none⟩ = some (.int .i64 x.s) ∧ wr.drew.cell? ⟨(ad.add (i * 3)).block, (ad.add (i * 3)).off + 2, none⟩ = some (.int .i64 x.e) ∧ wr.drew.cell? (bd.add (j * 3)) = some (.bool y.g) ∧ wr.drew.cell? ⟨(bd.add (j * 3)).block, (bd.add (j * 3)).off + 1, none⟩ = some (.int .i64 y.s) ∧ wr.drew.cell? ⟨(bd.add (j * 3)).block, (bd.add (j * 3)).off + 2, none⟩ = some (.int .i64 y.e) ∧ Aside0 (Below w.heap.size w wr.drew) := ⟨c0, c1, c2, d0, d1, d2, a0, a1, a2, b0, b1, b2, ⟨below_drew HB.out⟩⟩
                    clear c0 c1 c2 d0 d1 d2 a0 a1 a2 b0 b1 b2
                    go_wp2_with fail
                    go_region_held3 (fun z => z.cell? (xd.add (i * 3)) = some (.bool x.g) ∧ z.cell? ⟨(xd.add (i * 3)).block, (xd.add (i * 3)).off + 1, none⟩ = some (.int .i64 x.s) ∧ z.cell? ⟨(xd.add (i * 3)).block, (xd.add (i * 3)).off + 2, none⟩ = some (.int .i64 x.e) ∧ z.cell? (yd.add (j * 3)) = some (.bool y.g) ∧ z.cell? ⟨(yd.add (j * 3)).block, (yd.add (j * 3)).off + 1, none⟩ = some (.int .i64 y.s) ∧ z.cell? ⟨(yd.add (j * 3)).block, (yd.add (j * 3)).off + 2, none⟩ = some (.int .i64 y.e) ∧ z.cell? (ad.add (i * 3)) = some (.bool x.g) ∧ z.cell? ⟨(ad.add (i * 3)).block, (ad.add (i * 3)).off + 1, none⟩ = some (.int .i64 x.s) ∧ z.cell? ⟨(ad.add (i * 3)).block, (ad.add (i * 3)).off + 2, none⟩ = some (.int .i64 x.e) ∧ z.cell? (bd.add (j * 3)) = some (.bool y.g) ∧ z.cell? ⟨(bd.add (j * 3)).block, (bd.add (j * 3)).off + 1, none⟩ = some (.int .i64 y.s) ∧ z.cell? ⟨(bd.add (j * 3)).block, (bd.add (j * 3)).off + 2, none⟩ = some (.int .i64 y.e) ∧ Aside0 (Below w.heap.size w z)) (first | exact K | exact K0 | assumption)
                      (first
                      | (go_at_call 37; refine (winEqual_any ⟨_, _, _⟩ ⟨_, _, _⟩ _).mono ?_; rintro e_ w9 ⟨rfl, hb⟩; rw [hVq.out]; have K := KS.out _ hb; have CC := Aside0.mk (BS.out _ hb); clear hb))
                    all_goals
                      go_wp2
                      go_roundg (l1.length - (j + 1))
                      case measure => have := hq2.out; omega
                      case rel => exact ⟨j + 1, by omega, ⟨rfl⟩, by go_num, ⟨CC.out.1⟩, ⟨CC.out.2.1⟩, ⟨CC.out.2.2⟩⟩
                  · have hVq := Aside0.mk (show sameW x y = false by rw [show sameW x y = decide (x = y) from by unfold sameW; rw [isSp_nz QX.out, isSp_nz QY.out]]; simp [HE])
                    have hEq := eqSF HE
                    clear HE
                    have BS := Aside0.mk (fun (W' : World) (hb : Below wr.drew.heap.size wr.drew W') => (⟨below_then (below_drew HB.out) (below_drew HB.out).size hb, Kd.C_below HX.out ((below_drew (Below.refl wr.heap.size wr)).trans hb), Kd.C_below HY.out ((below_drew (Below.refl wr.heap.size wr)).trans hb)⟩ : Below w.heap.size w W' ∧ Kd.C kSp W' (some xd) l0.length l0 ∧ Kd.C kSp W' (some yd) l1.length l1))
                    have KS := Aside0.mk (fun (W' : World) (hb : Below wr.drew.heap.size wr.drew W') => (⟨(hb.cell (World.block_lt_of_cell? wr.drew _ c0)).trans c0, (hb.cell (World.block_lt_of_cell? wr.drew _ c1)).trans c1, (hb.cell (World.block_lt_of_cell? wr.drew _ c2)).trans c2, (hb.cell (World.block_lt_of_cell? wr.drew _ d0)).trans d0, (hb.cell (World.block_lt_of_cell? wr.drew _ d1)).trans d1, (hb.cell (World.block_lt_of_cell? wr.drew _ d2)).trans d2, (hb.cell (World.block_lt_of_cell? wr.drew _ a0)).trans a0, (hb.cell (World.block_lt_of_cell? wr.drew _ a1)).trans a1, (hb.cell (World.block_lt_of_cell? wr.drew _ a2)).trans a2, (hb.cell (World.block_lt_of_cell? wr.drew _ b0)).trans b0, (hb.cell (World.block_lt_of_cell? wr.drew _ b1)).trans b1, (hb.cell (World.block_lt_of_cell? wr.drew _ b2)).trans b2, ⟨below_then (below_drew HB.out) (below_drew HB.out).size hb⟩⟩ : W'.cell? (xd.add (i * 3)) = some (.bool x.g) ∧ W'.cell? ⟨(xd.add (i * 3)).block, (xd.add (i * 3)).off + 1, none⟩ = some (.int .i64 x.s) ∧ W'.cell? ⟨(xd.add (i * 3)).block, (xd.add (i * 3)).off + 2, none⟩ = some (.int .i64 x.e) ∧ W'.cell? (yd.add (j * 3)) = some (.bool y.g) ∧ W'.cell? ⟨(yd.add (j * 3)).block, (yd.add (j * 3)).off + 1, none⟩ = some (.int .i64 y.s) ∧ W'.cell? ⟨(yd.add (j * 3)).block, (yd.add (j * 3)).off + 2, none⟩ = some (.int .i64 y.e) ∧ W'.cell? (ad.add (i * 3)) = some (.bool x.g) ∧ W'.cell? ⟨(ad.add (i * 3)).block, (ad.add (i * 3)).off + 1, none⟩ = some (.int .i64 x.s) ∧ W'.cell? ⟨(ad.add (i * 3)).block, (ad.add (i * 3)).off + 2, none⟩ = some (.int .i64 x.e) ∧ W'.cell? (bd.add (j * 3)) = some (.bool y.g) ∧ W'.cell? ⟨(bd.add (j * 3)).block, (bd.add (j * 3)).off + 1, none⟩ = some (.int .i64 y.s) ∧ W'.cell? ⟨(bd.add (j * 3)).block, (bd.add (j * 3)).off + 2, none⟩ = some (.int .i64 y.e) ∧ Aside0 (Below w.heap.size w W')))
                    have K0 : wr.drew.cell? (xd.add (i * 3)) = some (.bool x.g) ∧ wr.drew.cell? ⟨(xd.add (i * 3)).block, (xd.add (i * 3)).off + 1, none⟩ = some (.int .i64 x.s) ∧ wr.drew.cell? ⟨(xd.add (i * 3)).block, (xd.add (i * 3)).off + 2, none⟩ = some (.int .i64 x.e) ∧ wr.drew.cell? (yd.add (j * 3)) = some (.bool y.g) ∧ wr.drew.cell? ⟨(yd.add (j * 3)).block, (yd.add (j * 3)).off + 1, none⟩ = some (.int .i64 y.s) ∧ wr.drew.cell? ⟨(yd.add (j * 3)).block, (yd.add (j * 3)).off + 2, none⟩ = some (.int .i64 y.e) ∧ wr.drew.cell? (ad.add (i * 3)) = some (.bool x.g) ∧ wr.drew.cell? ⟨(ad.add (i * 3)).block, (ad.add (i * 3)).off + 1, none⟩ = some (.int .i64 x.s) ∧ wr.drew.cell? ⟨(ad.add (i * 3)).block, (ad.add (i * 3)).off + 2, none⟩ = some (.int .i64 x.e) ∧ wr.drew.cell? (bd.add (j * 3)) = some (.bool y.g) ∧ wr.drew.cell? ⟨(bd.add (j * 3)).block, (bd.add (j * 3)).off + 1, none⟩ = some (.int .i64 y.s) ∧ wr.drew.cell? ⟨(bd.add (j * 3)).block, (bd.add (j * 3)).off + 2, none⟩ = some (.int .i64 y.e) ∧ Aside0 (Below w.heap.size w wr.drew) := ⟨c0, c1, c2, d0, d1, d2, a0, a1, a2, b0, b1, b2, ⟨below_drew HB.out⟩⟩
                    clear c0 c1 c2 d0 d1 d2 a0 a1 a2 b0 b1 b2
                    go_wp2_with fail
                    go_region_held3 (fun z => z.cell? (xd.add (i * 3)) = some (.bool x.g) ∧ z.cell? ⟨(xd.add (i * 3)).block, (xd.add (i * 3)).off + 1, none⟩ = some (.int .i64 x.s) ∧ z.cell? ⟨(xd.add (i * 3)).block, (xd.add (i * 3)).off + 2, none⟩ = some (.int .i64 x.e) ∧ z.cell? (yd.add (j * 3)) = some (.bool y.g) ∧ z.cell? ⟨(yd.add (j * 3)).block, (yd.add (j * 3)).off + 1, none⟩ = some (.int .i64 y.s) ∧ z.cell? ⟨(yd.add (j * 3)).block, (yd.add (j * 3)).off + 2, none⟩ = some (.int .i64 y.e) ∧ z.cell? (ad.add (i * 3)) = some (.bool x.g) ∧ z.cell? ⟨(ad.add (i * 3)).block, (ad.add (i * 3)).off + 1, none⟩ = some (.int .i64 x.s) ∧ z.cell? ⟨(ad.add (i * 3)).block, (ad.add (i * 3)).off + 2, none⟩ = some (.int .i64 x.e) ∧ z.cell? (bd.add (j * 3)) = some (.bool y.g) ∧ z.cell? ⟨(bd.add (j * 3)).block, (bd.add (j * 3)).off + 1, none⟩ = some (.int .i64 y.s) ∧ z.cell? ⟨(bd.add (j * 3)).block, (bd.add (j * 3)).off + 2, none⟩ = some (.int .i64 y.e) ∧ Aside0 (Below w.heap.size w z)) (first | exact K | exact K0 | assumption)
                      (first
                      | (go_at_call 37; refine (winEqual_any ⟨_, _, _⟩ ⟨_, _, _⟩ _).mono ?_; rintro e_ w9 ⟨rfl, hb⟩; rw [hVq.out]; have K := KS.out _ hb; have CC := Aside0.mk (BS.out _ hb); clear hb))
                    all_goals
                      go_wp2
                      go_roundg (l1.length - (j + 1))
                      case measure => have := hq2.out; omega
                      case rel => exact ⟨j + 1, by omega, ⟨rfl⟩, by go_num, ⟨CC.out.1⟩, ⟨CC.out.2.1⟩, ⟨CC.out.2.2⟩⟩
                · go_wp2
                  go_roundg (l0.length - (i + 1))
                  case measure => have := hq1.out; omega
                  case rel => exact ⟨i + 1, by omega, ⟨rfl⟩, by go_num, HB, HX, HY⟩
            · clear hq1
              have hE : decide (l0.map nz = l1.map nz) = decide (l0 = l1) := by rw [map_nz_id HIX.out, map_nz_id HIY.out]
              cases hdd : decide (l0 = l1)
              all_goals
                have HDD := Aside0.mk hdd
                have HEE := Aside0.mk hE
                clear hdd hE
                go_wp2_with (first
                  | (go_at_call 43; have hmark := HZ1; refine (winEqualList_any _ _ l0 _ _ l0 _ HX1.out HCX.out HX1.out HCX.out (by omega) (by omega)).mono ?_; rintro e_ w2 ⟨rfl, hb⟩; rw [show decide (l0.map nz = l0.map nz) = true from by simp]; have HZ2 := Aside0.mk (below_then HZ1.out HZ1.out.size hb); clear hmark hb)
                  | (go_at_call 43; refine (winEqualList_any _ _ l0 _ _ l1 _ HX.out HCX.out HY.out HCY.out (by omega) (by omega)).mono ?_; rintro e_ w1 ⟨rfl, hb⟩; rw [HEE.out, HDD.out]; have HZ0 := Aside0.mk (below_then HB.out HB.out.size hb); have HX0 := Aside0.mk (Kd.C_below HX.out hb); clear hb)
                  | (go_at_call 19; refine (sameSpans_any _ _ l0 _ _ l1 _ (Kd.C_below HR0.out HZ0.out) HC0.out (Kd.C_below HR1.out HZ0.out) HC1.out).mono ?_; rintro e_ w3 ⟨rfl, hdr⟩; rw [HDD.out]; have HZ1 := Aside0.mk (below_then HZ0.out HZ0.out.size hdr.below); have HX1 := Aside0.mk (Kd.C_below HX0.out hdr.below); clear hdr)
                  | (go_at_call 23; refine (awake_any _).mono ?_; rintro e_ w4 ⟨rfl, hb⟩; have HZ3 := Aside0.mk (below_then HZ2.out HZ2.out.size hb); clear hb))
                go_ret
                exact ⟨rfl, HZ3.out⟩
theorem winEqual_walk (A0 : Option Addr) (c0 : Nat) (l0 : List Sp) (A1 : Option Addr) (c1 : Nat) (l1 : List Sp) (w : World) (hr0 : Kd.C kSp w A0 l0.length l0) (hc0 : l0.length ≤ c0) (hr1 : Kd.C kSp w A1 l1.length l1) (hc1 : l1.length ≤ c1) :
    Calls Try.prog 15 #[.slice A0 l0.length c0, .slice A1 l1.length c1] w fun e w' => e = .returned (.bool true) ∧ Below w.heap.size w w' := by
  by_cases b2 : (12 : Int) < (l0.length : Int)
  · clear hr0 hr1 hc0 hc1
    by_cases b0 : (2147483647 : Int) < (l0.length : Int)
    · go_enter Try.func15, Try.ntmps15
      go_wp2
      go_ret
      exact ⟨rfl, Below.refl _ _⟩
    · by_cases b1 : (2147483647 : Int) < (l1.length : Int)
      · go_enter Try.func15, Try.ntmps15
        go_wp2
        go_ret
        exact ⟨rfl, Below.refl _ _⟩
      · go_enter Try.func15, Try.ntmps15
        go_wp2
        go_ret
        exact ⟨rfl, Below.refl _ _⟩
  · by_cases b3 : (12 : Int) < (l1.length : Int)
    · clear hr0 hr1 hc0 hc1
      by_cases b1 : (2147483647 : Int) < (l1.length : Int)
      · go_enter Try.func15, Try.ntmps15
        go_wp2
        go_ret
        exact ⟨rfl, Below.refl _ _⟩
      · go_enter Try.func15, Try.ntmps15
        go_wp2
        go_ret
        exact ⟨rfl, Below.refl _ _⟩
    · exact winEqual_core A0 c0 l0 A1 c1 l1 w hr0 hc0 hr1 hc1 (by omega) (by omega)
end Go.Proofs.Ytdifeleddhefnaa
