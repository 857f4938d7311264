/- Contracts of the functions on windows: lists of windows as rows of the call's own. Some lines are turned from what the kit's print.sh wrote for this seat. -/
import Derived.Test.YtdifeleddhefnaaTime
import Derived.Test.YtdifeleddhefnaaWMore
import Derived.Test.YtdifeleddhefnaaWEqStruct
import Derived.Test.YtdifeleddhefnaaWFour
import Derived.Test.YtdifeleddhefnaaWLast
import Derived.Test.YtdifeleddhefnaaWGuard
import Derived.Test.YtdifeleddhefnaaWNEv
set_option linter.unusedVariables false
set_option linter.unusedSimpArgs false
namespace Go.Proofs.Ytdifeleddhefnaa
open Go.RowKit Go.Proofs.YtdifeleddhefnaaW.PrintWords

/-- A window: the global one, or that from s to e. -/
@[ext] structure Sp where
  g : Bool
  s : Int
  e : Int
deriving DecidableEq
def zSp : Sp := ⟨false, 0, 0⟩
def kSp : Kd Sp := Kd.iso (Kd.pair Kd.bool (Kd.pair (Kd.int .i64) (Kd.int .i64))) (fun x : Sp => (x.g, x.s, x.e))
theorem kSp_open {w : World} {x : Sp} {cs : List Value} (h : kSp.K w x cs) : cs = [.bool x.g, .int .i64 x.s, .int .i64 x.e] := by
  obtain ⟨_, _, rfl, rfl, ⟨_, _, rfl, rfl, rfl⟩⟩ := h
  exact rfl
theorem kSp_mkM (w : World) (base : Nat) (ok : Nat → Prop) (x : Sp) : kSp.M w base ok x [.bool x.g, .int .i64 x.s, .int .i64 x.e] := ⟨[.bool x.g], [.int .i64 x.s, .int .i64 x.e], rfl, rfl, ⟨[.int .i64 x.s], [.int .i64 x.e], rfl, rfl, rfl⟩⟩
def rdSp (xs : List Sp) (i : Nat) : Sp := xs.getD i zSp
theorem atSp {w : World} {A : Option Addr} {n : Nat} {xs : List Sp} (h : Kd.C kSp w A n xs) (i : Nat) (h1 : i < n) : ∃ ad, A = some ad ∧ w.cell? (ad.add (i * 3)) = some (.bool (rdSp xs i).g) ∧ w.cell? ⟨(ad.add (i * 3)).block, (ad.add (i * 3)).off + 1, none⟩ = some (.int .i64 (rdSp xs i).s) ∧ w.cell? ⟨(ad.add (i * 3)).block, (ad.add (i * 3)).off + 2, none⟩ = some (.int .i64 (rdSp xs i).e) := by
  obtain ⟨ad, c, e, _, hK, hc0⟩ := Kd.C_get h zSp (i : Int) (by omega) (by omega)
  have hc : ∀ j u, c[j]? = some u → w.cell? (ad.add (i * 3 + j)) = some u := hc0
  obtain rfl := kSp_open hK
  exact ⟨ad, e, hc 0 _ rfl, by rw [← add_field _ _ 1 (by omega)]; exact hc 1 _ rfl, by rw [← add_field _ _ 2 (by omega)]; exact hc 2 _ rfl⟩
/-- A window as an interface value. -/
def ifv (x : Sp) : Value := if x.g then .iface 105 (.agg #[]) else .iface 107 (.agg #[.int .i64 x.s, .int .i64 x.e])
theorem ifv_one (x : Sp) : (ifv x).oneCell' = true := by unfold ifv; split <;> rfl
def kIf : Kd Sp := Kd.scalar ifv ifv_one
theorem atIf {w : World} {A : Option Addr} {n : Nat} {xs : List Sp} (h : Kd.C kIf w A n xs) (i : Nat) (h1 : i < n) : ∃ ad, A = some ad ∧ w.cell? (ad.add i) = some (ifv (rdSp xs i)) := by
  obtain ⟨ad, c, e, _, hK, hc0⟩ := Kd.C_get h zSp (i : Int) (by omega) (by omega)
  have hc : ∀ j u, c[j]? = some u → w.cell? (ad.add (i * 1 + j)) = some u := hc0
  obtain rfl : c = [ifv (rdSp xs i)] := hK
  exact ⟨ad, e, by have := hc 0 _ rfl; simpa using this⟩
theorem take_succ (l : List Sp) (k : Nat) (h : k < l.length) : l.take (k + 1) = l.take k ++ [rdSp l k] := by
  rw [List.take_succ_eq_append_getElem h]; simp [rdSp, List.getD_eq_getElem?_getD, h]
theorem info50 : (Try.prog.info? 50).map (fun i => (i.zero, i.size, i.bytes)) = some (some (.agg #[(.bool false), (.int .i64 0), (.int .i64 0)]), 3, 24) := by kernel_rfl
theorem info36 : (Try.prog.info? 36).map (fun i => (i.zero, i.size, i.bytes)) = some (some (.agg #[(.bool false), (.int .i64 0), (.int .i64 0)]), 3, 24) := by kernel_rfl
theorem info73 : (Try.prog.info? 73).map (fun i => (i.zero, i.size, i.bytes)) = some (some .nilIface, 1, 16) := by kernel_rfl

set_option maxHeartbeats 1000000 in
set_option maxRecDepth 100000 in
theorem winSpans_any (A0 : Option Addr) (c0 : Nat) (l : List Sp) (w : World) (hr0 : Kd.C kSp w A0 l.length l) (hc0 : l.length ≤ c0) (hl : l.length * 24 ≤ 140737488351232) :
    Calls Try.prog 20 #[.slice A0 l.length c0] w fun e w' => ∃ v : Value, e = .returned v ∧ Kd.R kSp 50 w' w.heap.size (fun _ => True) v l ∧ Below w.heap.size w w' := by
  have HR0 := Aside0.mk hr0
  have HC0 := Aside0.mk hc0
  clear hr0 hc0
  have HB := Aside0.mk (Below.refl w.heap.size w)
  go_enter Try.func20, Try.ntmps20
  go_wp2
  go_loopg [3, 8] l.length (fun kq v3 v8 w' => ∃ k : Nat, k ≤ l.length ∧ Aside0 (kq = l.length - k) ∧ v8 = .int .i64 k ∧ Aside0 (Kd.R kSp 50 w' w.heap.size (fun _ => True) v3 (l.take k)) ∧ Aside0 (Below w.heap.size w w'))
  case atStart => exact ⟨0, Nat.zero_le _, ⟨by simp⟩, rfl, ⟨Kd.R_nil _ _ _ _ _⟩, HB⟩
  case round =>
    clear HB
    obtain ⟨k, hk, hq, rfl, HO, HB⟩ := hrel
    by_cases hlt : k < l.length
    · obtain ⟨ad, e104, hx0, hx1, hx2⟩ := atSp HR0.out k hlt
      cases e104
      replace hx0 := (HB.out.cell (World.block_lt_of_cell? w _ hx0)).trans hx0
      replace hx1 := (HB.out.cell (World.block_lt_of_cell? w _ hx1)).trans hx1
      replace hx2 := (HB.out.cell (World.block_lt_of_cell? w _ hx2)).trans hx2
      have hts := Aside0.mk (take_succ l k hlt)
      have htl := Aside0.mk (List.length_take_of_le hk)
      go_wp2_with (first | ((with_reducible refine gate_dst (N := 5) rfl ?_); refine box_event ?hg (N := 5) ?hd (cs := #[.bool false, .int .i64 0, .int .i64 0]) (t := 36) ?hr ?_; (case hd => rfl); (case hg => rfl); (case hr => first | (go_simp; done) | (go_simp; rfl)); intro gb hg w6 hbox hb; have n0_ := Aside0.mk (Kd.R_below (by (with_reducible repeat (first | apply Kd.R_alloc | apply Kd.R_drewN | apply Kd.R_drew)); exact HO.out) hb); have n1_ := Aside0.mk (below_step (by repeat (first | (with_reducible first | exact HB.out | apply below_alloc | apply pw_below_drewN | apply below_drew1) | exact HB.out)) hb); have BK := Aside0.mk (hbox); have GE := Aside0.mk ((by rw [hg]; exact (below_size (by repeat (first | (with_reducible first | exact HB.out | apply below_alloc | apply pw_below_drewN | apply below_drew1) | exact HB.out)))) : w.heap.size ≤ gb); clear HO; have HO := n0_; clear n0_; clear HB; have HB := n1_; clear n1_; clear hb hbox hg; have hcz_0 : w6.cell? ⟨gb, 0, none⟩ = some (.bool false) := (blk_cell BK.out 0).trans rfl; have hfz_0 := blk_frozen BK.out 0; have hcz_1 : w6.cell? ⟨gb, 1, none⟩ = some (.int .i64 0) := (blk_cell BK.out 1).trans rfl; have hfz_1 := blk_frozen BK.out 1; have hcz_2 : w6.cell? ⟨gb, 2, none⟩ = some (.int .i64 0) := (blk_cell BK.out 2).trans rfl; have hfz_2 := blk_frozen BK.out 2) | ((with_reducible refine gate_builtin (b := .append) (xs := #[.tmp 12, .tmp 14]) rfl ?_); at_builtin; refine Kd.R_append kSp (w0 := w) w.heap.size rfl (.tmp 12) (.tmp 14) 26 50 (.agg #[(.bool false), (.int .i64 0), (.int .i64 0)]) 24 rfl Try.underlying26 info50 rfl (by decide) (by omega) u3 (l.take k) (rdSp l k) [.bool (rdSp l k).g, .int .i64 (rdSp l k).s, .int .i64 (rdSp l k).e] (fun _ => True) (fun _ => False) rfl (by first | (go_simp; done) | (go_simp; rfl)) ?aP (fun _ hk => hk.elim) ?aF ?aO ?aB ?aS ?aL ?_; (case aP => exact kSp_mkM _ _ _ _); (case aB => exact (by repeat (first | (with_reducible first | exact HB.out | apply below_alloc | apply pw_below_drewN | apply below_drew1 | refine below_set ?_ GE.out) | exact HB.out))); (case aF => exact (fun _ _ => trivial)); (case aO => exact (by (with_reducible repeat (first | apply Kd.R_alloc | apply Kd.R_drewN | apply Kd.R_drew)); exact Kd.R_mono (Kd.R_far (p := ⟨gb, 2, none⟩) (Kd.R_far (p := ⟨gb, 1, none⟩) (Kd.R_far (p := ⟨gb, 0, none⟩) (Kd.R_types HO.out BK.out (by decide)) (fun _ hk => hk.2) (.bool (rdSp l k).g)) (fun _ hk => hk.2) (.int .i64 (rdSp l k).s)) (fun _ hk => hk.2) (.int .i64 (rdSp l k).e)) (fun _ hk => trivial))); (case aS => exact (below_size (by repeat (first | (with_reducible first | exact HB.out | apply below_alloc | apply pw_below_drewN | apply below_drew1 | refine below_set ?_ GE.out) | exact HB.out)))); (case aL => have := htl.out; omega); intro v107 w8 ho hb hg hat; rw [← hts.out] at ho; have n1_ := Aside0.mk (hb); have n2_ := Aside0.mk (ho); clear BK; clear HB; clear HO; have HB := n1_; have HO := n2_; clear n1_ n2_; clear ho hb hg hat))
      go_roundg (l.length - (k + 1))
      case measure => have := hq.out; omega
      case rel => exact ⟨k + 1, by omega, ⟨rfl⟩, by go_num, HO, HB⟩
    · have hkl : Aside0 (k = l.length) := ⟨by omega⟩
      go_wp2
      go_ret
      have HO' := HO.out
      rw [hkl.out, List.take_length] at HO'
      exact ⟨_, rfl, HO', HB.out⟩

theorem win_any (x : Sp) (w : World) : Calls Try.prog 60 #[.agg #[.bool x.g, .int .i64 x.s, .int .i64 x.e]] w fun e w' => e = .returned (ifv x) ∧ Below w.heap.size w w' := by
  obtain ⟨g, s, e⟩ := x
  cases g
  · go_enter Try.func60, Try.ntmps60
    go_wp2
    go_ret
    exact ⟨rfl, by repeat (first | exact Below.refl _ _ | apply below_alloc | apply below_drew | refine below_set ?_ (by simp) | (refine Below.setCell ?_ (by simp) _))⟩
  · go_enter Try.func60, Try.ntmps60
    go_wp2
    go_ret
    exact ⟨rfl, by repeat (first | exact Below.refl _ _ | apply below_alloc | apply below_drew | refine below_set ?_ (by simp) | (refine Below.setCell ?_ (by simp) _))⟩
/-- The plain window of an interface value: a global one without bounds. -/
def nz (x : Sp) : Sp := if x.g then ⟨true, 0, 0⟩ else x
theorem ta107 (s e : Int) : ∀ W : World, (Instr.typeAssert (.iface 107 (.agg #[.int .i64 s, .int .i64 e])) 73 107 true).run Try.prog W = .ok (.tuple #[.agg #[.int .i64 s, .int .i64 e], .bool true]) W := fun _ => by kernel_rfl
theorem ta105 : ∀ W : World, (Instr.typeAssert (.iface 105 (.agg #[])) 73 107 true).run Try.prog W = .ok (.tuple #[.agg #[.int .i64 0, .int .i64 0], .bool false]) W := fun _ => by kernel_rfl
theorem backWin_any (x : Sp) (w : World) : Calls Try.prog 66 #[ifv x] w fun e w' => e = .returned (.agg #[.bool (nz x).g, .int .i64 (nz x).s, .int .i64 (nz x).e]) ∧ Below w.heap.size w w' := by
  obtain ⟨g, s, e⟩ := x
  cases g
  · show Calls Try.prog 66 #[.iface 107 (.agg #[.int .i64 s, .int .i64 e])] w _
    have hta := ta107 s e
    go_enter Try.func66, Try.ntmps66
    go_wp2
    go_returns
    exact ⟨rfl, by repeat (first | exact Below.refl _ _ | apply below_alloc | apply below_drew | refine below_set ?_ (by simp) | (refine Below.setCell ?_ (by simp) _))⟩
  · show Calls Try.prog 66 #[.iface 105 (.agg #[])] w _
    have hta := ta105
    go_enter Try.func66, Try.ntmps66
    go_wp2
    go_returns
    exact ⟨rfl, by repeat (first | exact Below.refl _ _ | apply below_alloc | apply below_drew | refine below_set ?_ (by simp) | (refine Below.setCell ?_ (by simp) _))⟩
theorem ifv_iface (x : Sp) : ∃ t v, ifv x = .iface t v := by unfold ifv; split <;> exact ⟨_, _, rfl⟩

set_option maxHeartbeats 1000000 in
set_option maxRecDepth 100000 in
theorem wins_any (A0 : Option Addr) (c0 : Nat) (l : List Sp) (w : World) (hr0 : Kd.C kSp w A0 l.length l) (hc0 : l.length ≤ c0) (hl : l.length * 24 ≤ 140737488351232) :
    Calls Try.prog 68 #[.slice A0 l.length c0] w fun e w' => ∃ v : Value, e = .returned v ∧ Kd.R kIf 73 w' w.heap.size (fun _ => True) v l ∧ Below w.heap.size w w' := by
  have HR0 := Aside0.mk hr0
  have HC0 := Aside0.mk hc0
  clear hr0 hc0
  have HB := Aside0.mk (Below.refl w.heap.size w)
  go_enter Try.func68, Try.ntmps68
  go_wp2
  go_loopg [3, 8] l.length (fun kq v3 v8 w' => ∃ k : Nat, k ≤ l.length ∧ Aside0 (kq = l.length - k) ∧ v8 = .int .i64 k ∧ Aside0 (Kd.R kIf 73 w' w.heap.size (fun _ => True) v3 (l.take k)) ∧ Aside0 (Below w.heap.size w w'))
  case atStart => exact ⟨0, Nat.zero_le _, ⟨by simp⟩, rfl, ⟨Kd.R_nil _ _ _ _ _⟩, HB⟩
  case round =>
    clear HB
    obtain ⟨k, hk, hq, rfl, HO, HB⟩ := hrel
    by_cases hlt : k < l.length
    · obtain ⟨ad, e104, hx0, hx1, hx2⟩ := atSp HR0.out k hlt
      cases e104
      replace hx0 := (HB.out.cell (World.block_lt_of_cell? w _ hx0)).trans hx0
      replace hx1 := (HB.out.cell (World.block_lt_of_cell? w _ hx1)).trans hx1
      replace hx2 := (HB.out.cell (World.block_lt_of_cell? w _ hx2)).trans hx2
      have hts := Aside0.mk (take_succ l k hlt)
      have htl := Aside0.mk (List.length_take_of_le hk)
      go_wp2_with (first | ((with_reducible refine gate_dst (N := 5) rfl ?_); refine box_event ?hg (N := 5) ?hd (cs := #[.bool false, .int .i64 0, .int .i64 0]) (t := 36) ?hr ?_; (case hd => rfl); (case hg => rfl); (case hr => first | (go_simp; done) | (go_simp; rfl)); intro gb hg w6 hbox hb; have n0_ := Aside0.mk (Kd.R_below (by (with_reducible repeat (first | apply Kd.R_alloc | apply Kd.R_drewN | apply Kd.R_drew)); exact HO.out) hb); have n1_ := Aside0.mk (below_step (by repeat (first | (with_reducible first | exact HB.out | apply below_alloc | apply pw_below_drewN | apply below_drew1) | exact HB.out)) hb); have BK := Aside0.mk (hbox); have GE := Aside0.mk ((by rw [hg]; exact (below_size (by repeat (first | (with_reducible first | exact HB.out | apply below_alloc | apply pw_below_drewN | apply below_drew1) | exact HB.out)))) : w.heap.size ≤ gb); clear HO; have HO := n0_; clear n0_; clear HB; have HB := n1_; clear n1_; clear hb hbox hg; have hcz_0 : w6.cell? ⟨gb, 0, none⟩ = some (.bool false) := (blk_cell BK.out 0).trans rfl; have hfz_0 := blk_frozen BK.out 0; have hcz_1 : w6.cell? ⟨gb, 1, none⟩ = some (.int .i64 0) := (blk_cell BK.out 1).trans rfl; have hfz_1 := blk_frozen BK.out 1; have hcz_2 : w6.cell? ⟨gb, 2, none⟩ = some (.int .i64 0) := (blk_cell BK.out 2).trans rfl; have hfz_2 := blk_frozen BK.out 2) | (go_at_call 60; (with_reducible refine (win_any (rdSp l k) _).mono ?_); rintro e w7 ⟨rfl, hb7⟩; obtain ⟨t_, v_, hv_⟩ := ifv_iface (rdSp l k); rw [hv_]; have HV := Aside0.mk hv_; clear hv_; have n1_ := Aside0.mk (below_then (by repeat (first | (with_reducible first | exact HB.out | apply below_alloc | apply pw_below_drewN | apply below_drew1 | refine below_set ?_ GE.out) | exact HB.out)) (below_size (by repeat (first | (with_reducible first | exact HB.out | apply below_alloc | apply pw_below_drewN | apply below_drew1 | refine below_set ?_ GE.out) | exact HB.out))) hb7); have n2_ := Aside0.mk (Kd.R_below (by (with_reducible repeat (first | apply Kd.R_alloc | apply Kd.R_drewN | apply Kd.R_drew)); exact Kd.R_mono (Kd.R_far (p := ⟨gb, 2, none⟩) (Kd.R_far (p := ⟨gb, 1, none⟩) (Kd.R_far (p := ⟨gb, 0, none⟩) (Kd.R_types HO.out BK.out (by decide)) (fun _ hk => hk.2) (.bool (rdSp l k).g)) (fun _ hk => hk.2) (.int .i64 (rdSp l k).s)) (fun _ hk => hk.2) (.int .i64 (rdSp l k).e)) (fun _ hk => trivial)) hb7); clear BK HB HO hb7; have HB := n1_; have HO := n2_; clear n1_ n2_) | ((with_reducible refine gate_builtin (b := .append) (xs := #[.tmp 12, .tmp 15]) rfl ?_); at_builtin; refine Kd.R_append kIf (w0 := w) w.heap.size rfl (.tmp 12) (.tmp 15) 62 73 .nilIface 16 rfl Try.underlying62 info73 rfl (by decide) (by omega) u3 (l.take k) (rdSp l k) [.iface t_ v_] (fun _ => True) (fun _ => False) rfl (by first | (go_simp; done) | (go_simp; rfl)) ?aP (fun _ hk => hk.elim) ?aF ?aO ?aB ?aS ?aL ?_; (case aP => exact (congrArg (fun z => [z]) HV.out.symm)); (case aB => exact (by repeat (first | (with_reducible first | exact HB.out | apply below_alloc | apply pw_below_drewN | apply below_drew1) | exact HB.out))); (case aF => exact (fun _ _ => trivial)); (case aO => exact (by (with_reducible repeat (first | apply Kd.R_alloc | apply Kd.R_drewN | apply Kd.R_drew)); exact HO.out)); (case aS => exact (below_size (by repeat (first | (with_reducible first | exact HB.out | apply below_alloc | apply pw_below_drewN | apply below_drew1) | exact HB.out)))); (case aL => have := htl.out; omega); intro v107 w8 ho hb hg hat; rw [← hts.out] at ho; have n1_ := Aside0.mk (hb); have n2_ := Aside0.mk (ho); clear HB; clear HO; have HB := n1_; have HO := n2_; clear n1_ n2_; clear ho hb hg hat))
      go_roundg (l.length - (k + 1))
      case measure => have := hq.out; omega
      case rel => exact ⟨k + 1, by omega, ⟨rfl⟩, by go_num, HO, HB⟩
    · have hkl : Aside0 (k = l.length) := ⟨by omega⟩
      go_wp2
      go_ret
      have HO' := HO.out
      rw [hkl.out, List.take_length] at HO'
      exact ⟨_, rfl, HO', HB.out⟩
theorem take_map_nz (l : List Sp) (k : Nat) (h : k < l.length) : (l.take (k + 1)).map nz = (l.take k).map nz ++ [nz (rdSp l k)] := by rw [take_succ l k h]; simp
set_option maxHeartbeats 1000000 in
set_option maxRecDepth 100000 in
theorem backWins_any (A0 : Option Addr) (c0 : Nat) (l : List Sp) (w : World) (hr0 : Kd.C kIf w A0 l.length l) (hc0 : l.length ≤ c0) (hl : l.length * 24 ≤ 140737488351232) :
    Calls Try.prog 49 #[.slice A0 l.length c0] w fun e w' => ∃ v : Value, e = .returned v ∧ Kd.R kSp 36 w' w.heap.size (fun _ => True) v (l.map nz) ∧ Below w.heap.size w w' := by
  have HR0 := Aside0.mk hr0
  have HC0 := Aside0.mk hc0
  clear hr0 hc0
  have HB := Aside0.mk (Below.refl w.heap.size w)
  go_enter Try.func49, Try.ntmps49
  go_wp2
  go_loopg [3, 8] l.length (fun kq v3 v8 w' => ∃ k : Nat, k ≤ l.length ∧ Aside0 (kq = l.length - k) ∧ v8 = .int .i64 k ∧ Aside0 (Kd.R kSp 36 w' w.heap.size (fun _ => True) v3 ((l.take k).map nz)) ∧ Aside0 (Below w.heap.size w w'))
  case atStart => exact ⟨0, Nat.zero_le _, ⟨by simp⟩, rfl, ⟨Kd.R_nil _ _ _ _ _⟩, HB⟩
  case round =>
    clear HB
    obtain ⟨k, hk, hq, rfl, HO, HB⟩ := hrel
    by_cases hlt : k < l.length
    · obtain ⟨ad, e104, hx0⟩ := atIf HR0.out k hlt
      cases e104
      replace hx0 := (HB.out.cell (World.block_lt_of_cell? w _ hx0)).trans hx0
      have hts := Aside0.mk (take_map_nz l k hlt)
      have htl := Aside0.mk (show ((l.take k).map nz).length = k by rw [List.length_map, List.length_take_of_le hk])
      go_wp2_with (first | (go_at_call 66; (with_reducible refine (backWin_any (rdSp l k) _).mono ?_); rintro e w7 ⟨rfl, hb7⟩; have n1_ := Aside0.mk (below_then (by repeat (first | (with_reducible first | exact HB.out | apply below_alloc | apply pw_below_drewN | apply below_drew1) | exact HB.out)) (below_size (by repeat (first | (with_reducible first | exact HB.out | apply below_alloc | apply pw_below_drewN | apply below_drew1) | exact HB.out))) hb7); have n2_ := Aside0.mk (Kd.R_below (by (with_reducible repeat (first | apply Kd.R_alloc | apply Kd.R_drewN | apply Kd.R_drew)); exact HO.out) hb7); clear HB HO hb7; have HB := n1_; have HO := n2_; clear n1_ n2_) | ((with_reducible refine gate_builtin (b := .append) (xs := #[.tmp 12, .tmp 15]) rfl ?_); at_builtin; refine Kd.R_append kSp (w0 := w) w.heap.size rfl (.tmp 12) (.tmp 15) 28 36 (.agg #[(.bool false), (.int .i64 0), (.int .i64 0)]) 24 rfl Try.underlying28 info36 rfl (by decide) (by omega) u3 ((l.take k).map nz) (nz (rdSp l k)) [.bool (nz (rdSp l k)).g, .int .i64 (nz (rdSp l k)).s, .int .i64 (nz (rdSp l k)).e] (fun _ => True) (fun _ => False) rfl (by first | (go_simp; done) | (go_simp; rfl)) ?aP (fun _ hk => hk.elim) ?aF ?aO ?aB ?aS ?aL ?_; (case aP => exact kSp_mkM _ _ _ _); (case aB => exact (by repeat (first | (with_reducible first | exact HB.out | apply below_alloc | apply pw_below_drewN | apply below_drew1) | exact HB.out))); (case aF => exact (fun _ _ => trivial)); (case aO => exact (by (with_reducible repeat (first | apply Kd.R_alloc | apply Kd.R_drewN | apply Kd.R_drew)); exact HO.out)); (case aS => exact (below_size (by repeat (first | (with_reducible first | exact HB.out | apply below_alloc | apply pw_below_drewN | apply below_drew1) | exact HB.out)))); (case aL => have := htl.out; omega); intro v107 w8 ho hb hg hat; rw [← hts.out] at ho; have n1_ := Aside0.mk (hb); have n2_ := Aside0.mk (ho); clear HB; clear HO; have HB := n1_; have HO := n2_; clear n1_ n2_; clear ho hb hg hat))
      go_roundg (l.length - (k + 1))
      case measure => have := hq.out; omega
      case rel => exact ⟨k + 1, by omega, ⟨rfl⟩, by go_num, HO, HB⟩
    · have hkl : Aside0 (k = l.length) := ⟨by omega⟩
      go_wp2
      go_ret
      have HO' := HO.out
      rw [hkl.out, List.take_length] at HO'
      exact ⟨_, rfl, HO', HB.out⟩

theorem eqA50 (d : Nat) (w : World) (x0 y0 : Bool) (x1 y1 : Int) (x2 y2 : Int) :
    (Op.equalIn (d + 2) 50 (.agg #[.bool x0, .int .i64 x1, .int .i64 x2]) (.agg #[.bool y0, .int .i64 y1, .int .i64 y2])).run Try.prog w = .ok (x0 == y0 && (x1 == y1 && (x2 == y2))) w := by
  refine eqA_of Try.underlying50 (by kernel_rfl) ?_
  refine eqf_cons (by rfl) (by go_simp; rfl) (by go_simp; rfl) (by go_simp) ?_
  refine eqf_cons (by rfl) (by go_simp; rfl) (by go_simp; rfl) (by go_simp) ?_
  exact eqf_last (by rfl) (by go_simp; rfl) (by go_simp; rfl) (by go_simp)
theorem eqA36 (d : Nat) (w : World) (x0 y0 : Bool) (x1 y1 : Int) (x2 y2 : Int) :
    (Op.equalIn (d + 2) 36 (.agg #[.bool x0, .int .i64 x1, .int .i64 x2]) (.agg #[.bool y0, .int .i64 y1, .int .i64 y2])).run Try.prog w = .ok (x0 == y0 && (x1 == y1 && (x2 == y2))) w := by
  refine eqA_of Try.underlying36 (by kernel_rfl) ?_
  refine eqf_cons (by rfl) (by go_simp; rfl) (by go_simp; rfl) (by go_simp) ?_
  refine eqf_cons (by rfl) (by go_simp; rfl) (by go_simp; rfl) (by go_simp) ?_
  exact eqf_last (by rfl) (by go_simp; rfl) (by go_simp; rfl) (by go_simp)
attribute [local go_sem high] eqA50 eqA36

theorem ne_spB {a b : Sp} (h : a = b) : (!(a.g == b.g) || (!(a.s == b.s) || (!(a.e == b.e)))) = false := by subst h; simp
theorem ne_spT {a b : Sp} (h : ¬ a = b) : (!(a.g == b.g) || (!(a.s == b.s) || (!(a.e == b.e)))) = true := by
  obtain ⟨a1, a2, a3⟩ := a
  obtain ⟨b1, b2, b3⟩ := b
  simp only [Sp.mk.injEq, not_and] at h
  by_cases h1 : a1 = b1
  · by_cases h2 : a2 = b2
    · simp [h1, h2, h h1 h2]
    · simp [h2]
  · simp [h1]
theorem takes_succ {a b : List Sp} {k : Nat} (h0 : k < a.length) (h1 : k < b.length) (ht : a.take k = b.take k) (he : rdSp a k = rdSp b k) : a.take (k + 1) = b.take (k + 1) := by
  rw [take_succ a k h0, take_succ b k h1, ht, he]
theorem rd_ne {a b : List Sp} {k : Nat} (he : ¬ rdSp a k = rdSp b k) : ¬ a = b := fun h => he (by rw [h])
set_option maxHeartbeats 1000000 in
set_option maxRecDepth 100000 in
theorem sameSpans_any (A0 : Option Addr) (c0 : Nat) (l0 : List Sp) (A1 : Option Addr) (c1 : Nat) (l1 : List Sp) (w : World) (hr0 : Kd.C kSp w A0 l0.length l0) (hc0 : l0.length ≤ c0) (hr1 : Kd.C kSp w A1 l1.length l1) (hc1 : l1.length ≤ c1) :
    Calls Try.prog 19 #[.slice A0 l0.length c0, .slice A1 l1.length c1] w fun e w' => e = .returned (.bool (decide (l0 = l1))) ∧ Drawn0 w w' := by
  have HR0 := Aside0.mk hr0
  have HR1 := Aside0.mk hr1
  have hlen : l0.length ≤ 9223372036854775807 := hr0.2.1
  clear hr0 hc0 hr1 hc1
  by_cases c3 : l0.length = l1.length
  · have HL := Aside0.mk c3
    have c3b0 : ((l0.length : Int) == (l1.length : Int)) = true := by rw [c3]; simp
    have c3b1 : ((l0.length : Int) != (l1.length : Int)) = false := by rw [c3]; simp
    have c3b2 : (l0.length == l1.length) = true := by rw [c3]; simp
    clear c3
    go_enter Try.func19, Try.ntmps19
    go_wp2
    repeat (go_quiet (fail); try go_wp2)
    go_loopg [13] l0.length (fun kq v13 w' => ∃ k : Nat, k ≤ l0.length ∧ Aside0 (kq = l0.length - k) ∧ v13 = .int .i64 k ∧ Aside0 (l0.take k = l1.take k) ∧ Drawn0 w w')
    case atStart => exact ⟨0, Nat.zero_le _, ⟨by simp⟩, rfl, ⟨by simp⟩, by repeat (first | exact Drawn0.refl _ | apply Drawn0.step)⟩
    case round =>
      clear c3b0 c3b1 c3b2
      obtain ⟨k, hk, hq, rfl, HT, ⟨m1, rfl⟩⟩ := hrel
      by_cases hlt : k < l0.length
      · have hlt1 : k < l1.length := by have := HL.out; omega
        obtain ⟨ad0, e0, hx0, hx1, hx2⟩ := atSp HR0.out k hlt
        cases e0
        obtain ⟨ad1, e1, hy0, hy1, hy2⟩ := atSp HR1.out k hlt1
        cases e1
        have q0 : (k : Int) < (l0.length : Int) := by omega
        have q1 : (k : Int) < (l1.length : Int) := by omega
        have q2 : (0 : Int) ≤ (k : Int) := by omega
        by_cases he : rdSp l0 k = rdSp l1 k
        · have HE := Aside0.mk he
          have hb := ne_spB he
          clear he
          go_wp2
          repeat (go_quiet (fail); try go_wp2)
          go_roundg (l0.length - (k + 1))
          case measure => have := hq.out; omega
          case rel => exact ⟨k + 1, by omega, ⟨rfl⟩, by go_num, ⟨takes_succ hlt hlt1 HT.out HE.out⟩, by repeat (first | exact Drawn0.refl _ | apply Drawn0.step)⟩
        · have HE := Aside0.mk he
          have hb := ne_spT he
          clear he
          go_wp2
          repeat (go_quiet (fail); try go_wp2)
          go_ret
          exact ⟨ret_bool (decide_eq_false (rd_ne HE.out)).symm, by repeat (first | exact Drawn0.refl _ | apply Drawn0.step)⟩
      · have hkl : Aside0 (k = l0.length) := ⟨by omega⟩
        go_wp2
        repeat (go_quiet (fail); try go_wp2)
        go_ret
        exact ⟨ret_bool (decide_eq_true (by have h := HT.out; rw [hkl.out, List.take_length, HL.out, List.take_length] at h; exact h)).symm, by repeat (first | exact Drawn0.refl _ | apply Drawn0.step)⟩
  · have HL := Aside0.mk c3
    have c3b0 : ((l0.length : Int) == (l1.length : Int)) = false := beq_eq_false_iff_ne.mpr (by omega)
    have c3b1 : ((l0.length : Int) != (l1.length : Int)) = true := bne_iff_ne.mpr (by omega)
    have c3b2 : (l0.length == l1.length) = false := by simp; omega
    clear c3
    go_enter Try.func19, Try.ntmps19
    go_wp2
    repeat (go_quiet (fail); try go_wp2)
    go_ret
    exact ⟨ret_bool (decide_eq_false (fun h => HL.out (by rw [h]))).symm, by repeat (first | exact Drawn0.refl _ | apply Drawn0.step)⟩
end Go.Proofs.Ytdifeleddhefnaa
