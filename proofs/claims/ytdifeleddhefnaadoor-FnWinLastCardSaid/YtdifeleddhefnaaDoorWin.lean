/- Contracts of the functions on windows: lists of windows as rows of the call's own. Some lines are turned from what the kit's print.sh wrote for this seat. -/
import Derived.Test.YtdifeleddhefnaaDoorTime
import Derived.Test.YtdifeleddhefnaaDoorWMore
import Derived.Test.YtdifeleddhefnaaDoorWEqStruct
import Derived.Test.YtdifeleddhefnaaDoorWFour
import Derived.Test.YtdifeleddhefnaaDoorWLast
import Derived.Test.YtdifeleddhefnaaDoorWGuard
import Derived.Test.YtdifeleddhefnaaDoorWNEv
set_option linter.unusedVariables false
set_option linter.unusedSimpArgs false
namespace Go.Proofs.YtdifeleddhefnaaDoor
open Go.RowKit Go.Proofs.YtdifeleddhefnaaDoorW.PrintWords

/-- A window: the global one, or that from s to e. -/
@[ext] structure Sp where
  g : Bool
  s : Int
  e : Int
deriving DecidableEq
def zSp : Sp := ⟨false, 0, 0⟩
def kSp : Kd Sp := Kd.iso (Kd.pair Kd.bool (Kd.pair (Kd.int .i64) (Kd.int .i64))) (fun x : Sp => (x.g, x.s, x.e))
theorem kSp_open {w : World} {x : Sp} {cs : List Value} (h : kSp.K w x cs) : cs = [.bool x.g, .int .i64 x.s, .int .i64 x.e] := by
  obtain ⟨_, _, rfl, rfl, ⟨_, _, rfl, rfl, rfl⟩⟩ := h
  exact rfl
theorem kSp_mkM (w : World) (base : Nat) (ok : Nat → Prop) (x : Sp) : kSp.M w base ok x [.bool x.g, .int .i64 x.s, .int .i64 x.e] := ⟨[.bool x.g], [.int .i64 x.s, .int .i64 x.e], rfl, rfl, ⟨[.int .i64 x.s], [.int .i64 x.e], rfl, rfl, rfl⟩⟩
def rdSp (xs : List Sp) (i : Nat) : Sp := xs.getD i zSp
theorem atSp {w : World} {A : Option Addr} {n : Nat} {xs : List Sp} (h : Kd.C kSp w A n xs) (i : Nat) (h1 : i < n) : ∃ ad, A = some ad ∧ w.cell? (ad.add (i * 3)) = some (.bool (rdSp xs i).g) ∧ w.cell? ⟨(ad.add (i * 3)).block, (ad.add (i * 3)).off + 1, none⟩ = some (.int .i64 (rdSp xs i).s) ∧ w.cell? ⟨(ad.add (i * 3)).block, (ad.add (i * 3)).off + 2, none⟩ = some (.int .i64 (rdSp xs i).e) := by
  obtain ⟨ad, c, e, _, hK, hc0⟩ := Kd.C_get h zSp (i : Int) (by omega) (by omega)
  have hc : ∀ j u, c[j]? = some u → w.cell? (ad.add (i * 3 + j)) = some u := hc0
  obtain rfl := kSp_open hK
  exact ⟨ad, e, hc 0 _ rfl, by rw [← add_field _ _ 1 (by omega)]; exact hc 1 _ rfl, by rw [← add_field _ _ 2 (by omega)]; exact hc 2 _ rfl⟩
/-- A window as an interface value. -/
def ifv (x : Sp) : Value := if x.g then .iface 45 (.agg #[]) else .iface 47 (.agg #[.int .i64 x.s, .int .i64 x.e])
theorem ifv_one (x : Sp) : (ifv x).oneCell' = true := by unfold ifv; split <;> rfl
def kIf : Kd Sp := Kd.scalar ifv ifv_one
theorem atIf {w : World} {A : Option Addr} {n : Nat} {xs : List Sp} (h : Kd.C kIf w A n xs) (i : Nat) (h1 : i < n) : ∃ ad, A = some ad ∧ w.cell? (ad.add i) = some (ifv (rdSp xs i)) := by
  obtain ⟨ad, c, e, _, hK, hc0⟩ := Kd.C_get h zSp (i : Int) (by omega) (by omega)
  have hc : ∀ j u, c[j]? = some u → w.cell? (ad.add (i * 1 + j)) = some u := hc0
  obtain rfl : c = [ifv (rdSp xs i)] := hK
  exact ⟨ad, e, by have := hc 0 _ rfl; simpa using this⟩
theorem take_succ (l : List Sp) (k : Nat) (h : k < l.length) : l.take (k + 1) = l.take k ++ [rdSp l k] := by
  rw [List.take_succ_eq_append_getElem h]; simp [rdSp, List.getD_eq_getElem?_getD, h]
theorem info26 : (Tryd.prog.info? 26).map (fun i => (i.zero, i.size, i.bytes)) = some (some (.agg #[(.bool false), (.int .i64 0), (.int .i64 0)]), 3, 24) := by kernel_rfl
theorem info29 : (Tryd.prog.info? 29).map (fun i => (i.zero, i.size, i.bytes)) = some (some (.agg #[(.bool false), (.int .i64 0), (.int .i64 0)]), 3, 24) := by kernel_rfl
theorem info41 : (Tryd.prog.info? 41).map (fun i => (i.zero, i.size, i.bytes)) = some (some .nilIface, 1, 16) := by kernel_rfl

theorem win_any (x : Sp) (w : World) : Calls Tryd.prog 18 #[.agg #[.bool x.g, .int .i64 x.s, .int .i64 x.e]] w fun e w' => e = .returned (ifv x) ∧ Below w.heap.size w w' := by
  obtain ⟨g, s, e⟩ := x
  cases g
  · go_enter Tryd.func18, Tryd.ntmps18
    go_wp2
    go_ret
    exact ⟨rfl, by repeat (first | exact Below.refl _ _ | apply below_alloc | apply below_drew | refine below_set ?_ (by simp) | (refine Below.setCell ?_ (by simp) _))⟩
  · go_enter Tryd.func18, Tryd.ntmps18
    go_wp2
    go_ret
    exact ⟨rfl, by repeat (first | exact Below.refl _ _ | apply below_alloc | apply below_drew | refine below_set ?_ (by simp) | (refine Below.setCell ?_ (by simp) _))⟩
/-- The plain window of an interface value: a global one without bounds. -/
def nz (x : Sp) : Sp := if x.g then ⟨true, 0, 0⟩ else x
theorem ta107 (s e : Int) : ∀ W : World, (Instr.typeAssert (.iface 47 (.agg #[.int .i64 s, .int .i64 e])) 41 47 true).run Tryd.prog W = .ok (.tuple #[.agg #[.int .i64 s, .int .i64 e], .bool true]) W := fun _ => by kernel_rfl
theorem ta105 : ∀ W : World, (Instr.typeAssert (.iface 45 (.agg #[])) 41 47 true).run Tryd.prog W = .ok (.tuple #[.agg #[.int .i64 0, .int .i64 0], .bool false]) W := fun _ => by kernel_rfl
theorem backWin_any (x : Sp) (w : World) : Calls Tryd.prog 28 #[ifv x] w fun e w' => e = .returned (.agg #[.bool (nz x).g, .int .i64 (nz x).s, .int .i64 (nz x).e]) ∧ Below w.heap.size w w' := by
  obtain ⟨g, s, e⟩ := x
  cases g
  · show Calls Tryd.prog 28 #[.iface 47 (.agg #[.int .i64 s, .int .i64 e])] w _
    have hta := ta107 s e
    go_enter Tryd.func28, Tryd.ntmps28
    go_wp2
    go_returns
    exact ⟨rfl, by repeat (first | exact Below.refl _ _ | apply below_alloc | apply below_drew | refine below_set ?_ (by simp) | (refine Below.setCell ?_ (by simp) _))⟩
  · show Calls Tryd.prog 28 #[.iface 45 (.agg #[])] w _
    have hta := ta105
    go_enter Tryd.func28, Tryd.ntmps28
    go_wp2
    go_returns
    exact ⟨rfl, by repeat (first | exact Below.refl _ _ | apply below_alloc | apply below_drew | refine below_set ?_ (by simp) | (refine Below.setCell ?_ (by simp) _))⟩
theorem ifv_iface (x : Sp) : ∃ t v, ifv x = .iface t v := by unfold ifv; split <;> exact ⟨_, _, rfl⟩

theorem take_map_nz (l : List Sp) (k : Nat) (h : k < l.length) : (l.take (k + 1)).map nz = (l.take k).map nz ++ [nz (rdSp l k)] := by rw [take_succ l k h]; simp
set_option maxHeartbeats 1000000 in
set_option maxRecDepth 100000 in
theorem backWins_any (A0 : Option Addr) (c0 : Nat) (l : List Sp) (w : World) (hr0 : Kd.C kIf w A0 l.length l) (hc0 : l.length ≤ c0) (hl : l.length * 24 ≤ 140737488351232) :
    Calls Tryd.prog 23 #[.slice A0 l.length c0] w fun e w' => ∃ v : Value, e = .returned v ∧ Kd.R kSp 29 w' w.heap.size (fun _ => True) v (l.map nz) ∧ Below w.heap.size w w' := by
  have HR0 := Aside0.mk hr0
  have HC0 := Aside0.mk hc0
  clear hr0 hc0
  have HB := Aside0.mk (Below.refl w.heap.size w)
  go_enter Tryd.func23, Tryd.ntmps23
  go_wp2
  go_loopg [3, 8] l.length (fun kq v3 v8 w' => ∃ k : Nat, k ≤ l.length ∧ Aside0 (kq = l.length - k) ∧ v8 = .int .i64 k ∧ Aside0 (Kd.R kSp 29 w' w.heap.size (fun _ => True) v3 ((l.take k).map nz)) ∧ Aside0 (Below w.heap.size w w'))
  case atStart => exact ⟨0, Nat.zero_le _, ⟨by simp⟩, rfl, ⟨Kd.R_nil _ _ _ _ _⟩, HB⟩
  case round =>
    clear HB
    obtain ⟨k, hk, hq, rfl, HO, HB⟩ := hrel
    by_cases hlt : k < l.length
    · obtain ⟨ad, e104, hx0⟩ := atIf HR0.out k hlt
      cases e104
      replace hx0 := (HB.out.cell (World.block_lt_of_cell? w _ hx0)).trans hx0
      have hts := Aside0.mk (take_map_nz l k hlt)
      have htl := Aside0.mk (show ((l.take k).map nz).length = k by rw [List.length_map, List.length_take_of_le hk])
      go_wp2_with (first | (go_at_call 28; (with_reducible refine (backWin_any (rdSp l k) _).mono ?_); rintro e w7 ⟨rfl, hb7⟩; have n1_ := Aside0.mk (below_then (by repeat (first | (with_reducible first | exact HB.out | apply below_alloc | apply pw_below_drewN | apply below_drew1) | exact HB.out)) (below_size (by repeat (first | (with_reducible first | exact HB.out | apply below_alloc | apply pw_below_drewN | apply below_drew1) | exact HB.out))) hb7); have n2_ := Aside0.mk (Kd.R_below (by (with_reducible repeat (first | apply Kd.R_alloc | apply Kd.R_drewN | apply Kd.R_drew)); exact HO.out) hb7); clear HB HO hb7; have HB := n1_; have HO := n2_; clear n1_ n2_) | ((with_reducible refine gate_builtin (b := .append) (xs := #[.tmp 12, .tmp 15]) rfl ?_); at_builtin; refine Kd.R_append kSp (w0 := w) w.heap.size rfl (.tmp 12) (.tmp 15) 35 29 (.agg #[(.bool false), (.int .i64 0), (.int .i64 0)]) 24 rfl Tryd.underlying35 info29 rfl (by decide) (by omega) u3 ((l.take k).map nz) (nz (rdSp l k)) [.bool (nz (rdSp l k)).g, .int .i64 (nz (rdSp l k)).s, .int .i64 (nz (rdSp l k)).e] (fun _ => True) (fun _ => False) rfl (by first | (go_simp; done) | (go_simp; rfl)) ?aP (fun _ hk => hk.elim) ?aF ?aO ?aB ?aS ?aL ?_; (case aP => exact kSp_mkM _ _ _ _); (case aB => exact (by repeat (first | (with_reducible first | exact HB.out | apply below_alloc | apply pw_below_drewN | apply below_drew1) | exact HB.out))); (case aF => exact (fun _ _ => trivial)); (case aO => exact (by (with_reducible repeat (first | apply Kd.R_alloc | apply Kd.R_drewN | apply Kd.R_drew)); exact HO.out)); (case aS => exact (below_size (by repeat (first | (with_reducible first | exact HB.out | apply below_alloc | apply pw_below_drewN | apply below_drew1) | exact HB.out)))); (case aL => have := htl.out; omega); intro v107 w8 ho hb hg hat; rw [← hts.out] at ho; have n1_ := Aside0.mk (hb); have n2_ := Aside0.mk (ho); clear HB; clear HO; have HB := n1_; have HO := n2_; clear n1_ n2_; clear ho hb hg hat))
      go_roundg (l.length - (k + 1))
      case measure => have := hq.out; omega
      case rel => exact ⟨k + 1, by omega, ⟨rfl⟩, by go_num, HO, HB⟩
    · have hkl : Aside0 (k = l.length) := ⟨by omega⟩
      go_wp2
      go_ret
      have HO' := HO.out
      rw [hkl.out, List.take_length] at HO'
      exact ⟨_, rfl, HO', HB.out⟩

theorem eqA26 (d : Nat) (w : World) (x0 y0 : Bool) (x1 y1 : Int) (x2 y2 : Int) :
    (Op.equalIn (d + 2) 26 (.agg #[.bool x0, .int .i64 x1, .int .i64 x2]) (.agg #[.bool y0, .int .i64 y1, .int .i64 y2])).run Tryd.prog w = .ok (x0 == y0 && (x1 == y1 && (x2 == y2))) w := by
  refine eqA_of Tryd.underlying26 (by kernel_rfl) ?_
  refine eqf_cons (by rfl) (by go_simp; rfl) (by go_simp; rfl) (by go_simp) ?_
  refine eqf_cons (by rfl) (by go_simp; rfl) (by go_simp; rfl) (by go_simp) ?_
  exact eqf_last (by rfl) (by go_simp; rfl) (by go_simp; rfl) (by go_simp)
theorem eqA29 (d : Nat) (w : World) (x0 y0 : Bool) (x1 y1 : Int) (x2 y2 : Int) :
    (Op.equalIn (d + 2) 29 (.agg #[.bool x0, .int .i64 x1, .int .i64 x2]) (.agg #[.bool y0, .int .i64 y1, .int .i64 y2])).run Tryd.prog w = .ok (x0 == y0 && (x1 == y1 && (x2 == y2))) w := by
  refine eqA_of Tryd.underlying29 (by kernel_rfl) ?_
  refine eqf_cons (by rfl) (by go_simp; rfl) (by go_simp; rfl) (by go_simp) ?_
  refine eqf_cons (by rfl) (by go_simp; rfl) (by go_simp; rfl) (by go_simp) ?_
  exact eqf_last (by rfl) (by go_simp; rfl) (by go_simp; rfl) (by go_simp)
attribute [local go_sem high] eqA26 eqA29

theorem ne_spB {a b : Sp} (h : a = b) : (!(a.g == b.g) || (!(a.s == b.s) || (!(a.e == b.e)))) = false := by subst h; simp
theorem ne_spT {a b : Sp} (h : ¬ a = b) : (!(a.g == b.g) || (!(a.s == b.s) || (!(a.e == b.e)))) = true := by
  obtain ⟨a1, a2, a3⟩ := a
  obtain ⟨b1, b2, b3⟩ := b
  simp only [Sp.mk.injEq, not_and] at h
  by_cases h1 : a1 = b1
  · by_cases h2 : a2 = b2
    · simp [h1, h2, h h1 h2]
    · simp [h2]
  · simp [h1]
theorem takes_succ {a b : List Sp} {k : Nat} (h0 : k < a.length) (h1 : k < b.length) (ht : a.take k = b.take k) (he : rdSp a k = rdSp b k) : a.take (k + 1) = b.take (k + 1) := by
  rw [take_succ a k h0, take_succ b k h1, ht, he]
theorem rd_ne {a b : List Sp} {k : Nat} (he : ¬ rdSp a k = rdSp b k) : ¬ a = b := fun h => he (by rw [h])
end Go.Proofs.YtdifeleddhefnaaDoor
