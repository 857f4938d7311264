/- Contracts of the functions that make a window function and place a time in windows. -/
import Derived.Test.YtdifeleddhefnaaWin
import Derived.Deep.QuietTactic
import Derived.BigQuiet
import Derived.Deep.RegionWith
set_option linter.unusedVariables false
set_option linter.unusedSimpArgs false
namespace Go.Proofs.Ytdifeleddhefnaa
open Go.RowKit Go.Proofs.YtdifeleddhefnaaW.PrintWords

theorem newGlobal_any (w : World) : Calls Try.prog 63 #[] w fun e w' => e = .returned (.pointer (some ⟨w.heap.size, 0, none⟩)) ∧ w.alloc (.cells #[.string ⟨#[71, 76, 79]⟩, .int .i64 0, .int .i64 0, .int .i64 0] 111) = w' := by
  go_enter Try.func63, Try.ntmps63
  go_wp2
  go_ret
  exact ⟨rfl, rfl⟩
theorem newFixed_any (d : Int) (w : World) : Calls Try.prog 88 #[.int .i64 d] w fun e w' => e = .returned (.pointer (some ⟨w.heap.size, 0, none⟩)) ∧ w.alloc (.cells #[.string ⟨#[70, 73, 88]⟩, .int .i64 d, .int .i64 0, .int .i64 0] 111) = w' := by
  go_enter Try.func88, Try.ntmps88
  go_wp2
  go_ret
  exact ⟨rfl, rfl⟩
theorem newSliding_any (p d : Int) (w : World) : Calls Try.prog 89 #[.int .i64 p, .int .i64 d] w fun e w' => e = .returned (.pointer (some ⟨w.heap.size, 0, none⟩)) ∧ w.alloc (.cells #[.string ⟨#[83, 76, 73]⟩, .int .i64 d, .int .i64 p, .int .i64 0] 111) = w' := by
  go_enter Try.func89, Try.ntmps89
  go_wp2
  go_ret
  exact ⟨rfl, rfl⟩
theorem newSessions_any (d : Int) (w : World) : Calls Try.prog 90 #[.int .i64 d] w fun e w' => e = .returned (.pointer (some ⟨w.heap.size, 0, none⟩)) ∧ w.alloc (.cells #[.string ⟨#[83, 69, 83]⟩, .int .i64 0, .int .i64 0, .int .i64 d] 111) = w' := by
  go_enter Try.func90, Try.ntmps90
  go_wp2
  go_ret
  exact ⟨rfl, rfl⟩
theorem newFixed64_any (d : Int) (hd0 : 0 ≤ d) (hd1 : d ≤ 1000000000) (w : World) : Calls Try.prog 75 #[.int .i64 d] w fun e w' => e = .returned (.pointer (some ⟨w.heap.size, 0, none⟩)) ∧ w.alloc (.cells #[.string ⟨#[70, 73, 88]⟩, .int .i64 (d * 1000000), .int .i64 0, .int .i64 0] 111) = w' := by
  go_enter Try.func75, Try.ntmps75
  go_wp2_with (go_at_call 88; refine (newFixed_any _ _).mono ?_; rintro e w' ⟨rfl, rfl⟩)
  go_ret
  exact ⟨rfl, rfl⟩
theorem newSliding64_any (p d : Int) (hp0 : 0 ≤ p) (hp1 : p ≤ 1000000000) (hd0 : 0 ≤ d) (hd1 : d ≤ 1000000000) (w : World) : Calls Try.prog 76 #[.int .i64 p, .int .i64 d] w fun e w' => e = .returned (.pointer (some ⟨w.heap.size, 0, none⟩)) ∧ w.alloc (.cells #[.string ⟨#[83, 76, 73]⟩, .int .i64 (d * 1000000), .int .i64 (p * 1000000), .int .i64 0] 111) = w' := by
  go_enter Try.func76, Try.ntmps76
  go_wp2_with (go_at_call 89; refine (newSliding_any _ _ _).mono ?_; rintro e w' ⟨rfl, rfl⟩)
  go_ret
  exact ⟨rfl, rfl⟩
theorem newSessions64_any (d : Int) (hd0 : 0 ≤ d) (hd1 : d ≤ 1000000000) (w : World) : Calls Try.prog 77 #[.int .i64 d] w fun e w' => e = .returned (.pointer (some ⟨w.heap.size, 0, none⟩)) ∧ w.alloc (.cells #[.string ⟨#[83, 69, 83]⟩, .int .i64 0, .int .i64 0, .int .i64 (d * 1000000)] 111) = w' := by
  go_enter Try.func77, Try.ntmps77
  go_wp2_with (go_at_call 90; refine (newSessions_any _ _).mono ?_; rintro e w' ⟨rfl, rfl⟩)
  go_ret
  exact ⟨rfl, rfl⟩

/-- A function that places times in windows: its kind and its numbers. -/
structure WF where
  k : Int
  sz : Int
  pd : Int
  gp : Int
deriving DecidableEq
def WF.val (f : WF) : Value := .agg #[.int .u8 f.k, .int .i64 f.sz, .int .i64 f.pd, .int .i64 f.gp]
def WF.cells (f : WF) : Array Value :=
  if f.k = 1 then #[.string ⟨#[70, 73, 88]⟩, .int .i64 (f.sz * 1000000), .int .i64 0, .int .i64 0]
  else if f.k = 2 then #[.string ⟨#[83, 76, 73]⟩, .int .i64 (f.sz * 1000000), .int .i64 (f.pd * 1000000), .int .i64 0]
  else if f.k = 3 then #[.string ⟨#[83, 69, 83]⟩, .int .i64 0, .int .i64 0, .int .i64 (f.gp * 1000000)]
  else #[.string ⟨#[71, 76, 79]⟩, .int .i64 0, .int .i64 0, .int .i64 0]
def In9 (n : Int) : Prop := 0 ≤ n ∧ n ≤ 1000000000
theorem new2 (w : World) (o1 o2 : Obj) : ((w.alloc o1).alloc o2).heap[w.heap.size + 1]? = some o2 := by have := heap_alloc_new (w.alloc o1) o2; rwa [World.size_alloc] at this
theorem winFn_any (f : WF) (h1 : In9 f.sz) (h2 : In9 f.pd) (h3 : In9 f.gp) (w : World) : Calls Try.prog 51 #[f.val] w fun e w' => ∃ g : Nat, e = .returned (.pointer (some ⟨g, 0, none⟩)) ∧ w.heap.size ≤ g ∧ w'.heap[g]? = some (.cells f.cells 111 (0, 0)) ∧ Below w.heap.size w w' := by
  obtain ⟨k, sz, pd, gp⟩ := f
  obtain ⟨a1, b1⟩ := h1
  obtain ⟨a2, b2⟩ := h2
  obtain ⟨a3, b3⟩ := h3
  simp only at a1 b1 a2 b2 a3 b3
  show Calls Try.prog 51 #[.agg #[.int .u8 k, .int .i64 sz, .int .i64 pd, .int .i64 gp]] w _
  by_cases k1 : k = 1
  · subst k1
    go_enter Try.func51, Try.ntmps51
    go_wp2_with (go_at_call 75; refine (newFixed64_any _ a1 b1 _).mono ?_; rintro e w' ⟨rfl, rfl⟩)
    go_ret
    exact ⟨_, rfl, by simp, new2 _ _ _, by repeat (first | exact Below.refl _ _ | apply below_alloc | apply below_drew | apply pw_below_drewN | refine below_set ?_ (by simp) | (refine Below.setCell ?_ (by simp) _))⟩
  · have n1 : (k == 1) = false := by simpa using k1
    by_cases k2 : k = 2
    · subst k2
      go_enter Try.func51, Try.ntmps51
      go_wp2_with (go_at_call 76; refine (newSliding64_any _ _ a2 b2 a1 b1 _).mono ?_; rintro e w' ⟨rfl, rfl⟩)
      go_ret
      exact ⟨_, rfl, by simp, new2 _ _ _, by repeat (first | exact Below.refl _ _ | apply below_alloc | apply below_drew | apply pw_below_drewN | refine below_set ?_ (by simp) | (refine Below.setCell ?_ (by simp) _))⟩
    · have n2 : (k == 2) = false := by simpa using k2
      by_cases k3 : k = 3
      · subst k3
        go_enter Try.func51, Try.ntmps51
        go_wp2_with (go_at_call 77; refine (newSessions64_any _ a3 b3 _).mono ?_; rintro e w' ⟨rfl, rfl⟩)
        go_ret
        exact ⟨_, rfl, by simp, new2 _ _ _, by repeat (first | exact Below.refl _ _ | apply below_alloc | apply below_drew | apply pw_below_drewN | refine below_set ?_ (by simp) | (refine Below.setCell ?_ (by simp) _))⟩
      · have n3 : (k == 3) = false := by simpa using k3
        have hc : WF.cells ⟨k, sz, pd, gp⟩ = #[.string ⟨#[71, 76, 79]⟩, .int .i64 0, .int .i64 0, .int .i64 0] := by unfold WF.cells; rw [if_neg k1, if_neg k2, if_neg k3]
        rw [hc]
        clear hc k1 k2 k3
        go_enter Try.func51, Try.ntmps51
        go_wp2_with (go_at_call 63; refine (newGlobal_any _).mono ?_; rintro e w' ⟨rfl, rfl⟩)
        go_ret
        exact ⟨_, rfl, by simp, new2 _ _ _, by repeat (first | exact Below.refl _ _ | apply below_alloc | apply below_drew | apply pw_below_drewN | refine below_set ?_ (by simp) | (refine Below.setCell ?_ (by simp) _))⟩

theorem ms_mul (n : Int) : msOf (n * 1000000) = n := Int.mul_tdiv_cancel n (by decide)
theorem kIf_new (W : World) (base : Nat) (hb : base ≤ W.heap.size) (x : Sp) (u : Value) (hu : u = ifv x) : Kd.R kIf 73 (W.alloc (.cells #[u] 73)) base (fun _ => True) (.slice (some ⟨W.heap.size, 0, none⟩) 1 1) [x] :=
  ⟨fun _ _ => trivial, [u], World.ownsRow_lit (base := base) (e := 73) (size := 1) W #[u] 1 hb (by decide) rfl, by
    have := Reps.snoc (R := kIf.M (W.alloc (.cells #[u] 73)) base (fun k => True ∧ some k ≠ (Value.slice (some ⟨W.heap.size, 0, none⟩) 1 1).ownBlock)) (size := 1) (p := x) (c := [u]) (Reps.none _ _) (by show [u] = [ifv x]; rw [hu]) rfl
    exact this⟩
theorem single_any (w : World) : Calls Try.prog 87 #[] w fun e w' => ∃ v : Value, e = .returned v ∧ Kd.R kIf 73 w' w.heap.size (fun _ => True) v [⟨true, 0, 0⟩] ∧ Below w.heap.size w w' := by
  go_enter Try.func87, Try.ntmps87
  go_wp2
  go_ret
  exact ⟨_, rfl, kIf_new _ _ (Nat.le_refl _) _ _ rfl, by repeat (first | exact Below.refl _ _ | apply below_alloc | apply below_drew | apply pw_below_drewN | refine below_set ?_ (by simp) | (refine Below.setCell ?_ (by simp) _))⟩
/-- The beginning of the fixed window of a time. -/
def fxs (sz t : Int) : Int := t - t % sz
theorem fxs_bd {sz t : Int} (h : 1 ≤ sz) : t - sz < fxs sz t ∧ fxs sz t ≤ t := by
  unfold fxs
  have h1 := Int.emod_nonneg t (show sz ≠ 0 by omega)
  have h2 := Int.emod_lt_of_pos t (show 0 < sz by omega)
  omega
set_option maxHeartbeats 1000000 in
set_option maxRecDepth 100000 in
theorem asg_fixed (g : Nat) (sz t : Int) (h1 : 1 ≤ sz) (h2 : sz ≤ 1000000000) (h3 : -sz ≤ t) (h4 : t ≤ 600000000000000) (w : World) (hp : w.heap[g]? = some (.cells #[.string ⟨#[70, 73, 88]⟩, .int .i64 (sz * 1000000), .int .i64 0, .int .i64 0] 111 (0, 0))) :
    Calls Try.prog 74 #[.pointer (some ⟨g, 0, none⟩), .int .i64 t] w fun e w' => ∃ v : Value, e = .returned v ∧ Kd.R kIf 73 w' w.heap.size (fun _ => True) v [⟨false, fxs sz t, fxs sz t + sz⟩] ∧ Below w.heap.size w w' := by
  have hc0 : w.cell? ⟨g, 0, none⟩ = some (.string ⟨#[70, 73, 88]⟩) := (blk_cell hp 0).trans rfl
  have hc1 : w.cell? ⟨g, 1, none⟩ = some (.int .i64 (sz * 1000000)) := (blk_cell hp 1).trans rfl
  clear hp
  have hf := fxs_bd (t := t) h1
  have e1 : nrm (t + msOf (sz * 1000000)) = t + sz := by rw [ms_mul]; exact nrm_in (by omega) (by omega)
  have e2 : nrm (msOf (sz * 1000000)) = sz := by rw [ms_mul]; exact nrm_in (by omega) (by omega)
  have m1 := Int.emod_nonneg t (show sz ≠ 0 by omega)
  have m2 := Int.emod_lt_of_pos t (show 0 < sz by omega)
  go_enter Try.func74, Try.ntmps74
  go_wp2
  go_quiet (first | (go_at_call 78; exact Calls.quiet_of_same ((add_any _ _ (by omega) (by omega) (by omega) (by omega) _).mono fun e w' h => ⟨h.1, h.2.symm⟩)) | (go_at_call 80; exact Calls.quiet_of_same ((fromDur_any _ (by omega) (by omega) _).mono fun e w' h => ⟨h.1, h.2.symm⟩)))
  have e3 : nrm (t - t % sz + msOf (sz * 1000000)) = t - t % sz + sz := by rw [ms_mul]; exact nrm_in (by omega) (by omega)
  have e4 : nrm (9223371950454775 + msOf 1000000) = 9223371950454776 := by decide
  have e5 : mn (t - t % sz + sz) 9223371950454776 = t - t % sz + sz := by unfold mn; rw [if_pos (by omega)]
  go_wp2_with (first | (go_at_call 78; refine (add_any _ _ (by omega) (by omega) (by omega) (by omega) _).mono ?_; rintro e w' ⟨rfl, rfl⟩) | (go_at_call 56; refine (min_any _ _ _).mono ?_; rintro e w' ⟨rfl, rfl⟩))
  go_ret
  exact ⟨_, rfl, kIf_new _ _ (Nat.le_refl _) _ _ rfl, by repeat (first | exact Below.refl _ _ | apply below_alloc | apply below_drew | apply pw_below_drewN | refine below_set ?_ (by simp) | (refine Below.setCell ?_ (by simp) _))⟩

theorem asg_global (g : Nat) (t : Int) (w : World) (hp : w.heap[g]? = some (.cells #[.string ⟨#[71, 76, 79]⟩, .int .i64 0, .int .i64 0, .int .i64 0] 111 (0, 0))) :
    Calls Try.prog 74 #[.pointer (some ⟨g, 0, none⟩), .int .i64 t] w fun e w' => ∃ v : Value, e = .returned v ∧ Kd.R kIf 73 w' w.heap.size (fun _ => True) v [⟨true, 0, 0⟩] ∧ Below w.heap.size w w' := by
  have hc0 : w.cell? ⟨g, 0, none⟩ = some (.string ⟨#[71, 76, 79]⟩) := (blk_cell hp 0).trans rfl
  clear hp
  go_enter Try.func74, Try.ntmps74
  go_wp2_with (go_at_call 87; refine (single_any _).mono ?_; rintro e w' ⟨v_, rfl, hR, hb⟩; have HO := Aside0.mk hR; have HB := Aside0.mk hb; clear hR hb)
  go_ret
  exact ⟨_, rfl, HO.out, HB.out⟩
theorem asg_sess (g : Nat) (gp t : Int) (h1 : 0 ≤ gp) (h2 : gp ≤ 1000000000) (h3 : 0 ≤ t) (h4 : t ≤ 600000000000000) (w : World) (hp : w.heap[g]? = some (.cells #[.string ⟨#[83, 69, 83]⟩, .int .i64 0, .int .i64 0, .int .i64 (gp * 1000000)] 111 (0, 0))) :
    Calls Try.prog 74 #[.pointer (some ⟨g, 0, none⟩), .int .i64 t] w fun e w' => ∃ v : Value, e = .returned v ∧ Kd.R kIf 73 w' w.heap.size (fun _ => True) v [⟨false, t, t + gp⟩] ∧ Below w.heap.size w w' := by
  have hc0 : w.cell? ⟨g, 0, none⟩ = some (.string ⟨#[83, 69, 83]⟩) := (blk_cell hp 0).trans rfl
  have hc3 : w.cell? ⟨g, 3, none⟩ = some (.int .i64 (gp * 1000000)) := (blk_cell hp 3).trans rfl
  clear hp
  have e1 : nrm (t + msOf (gp * 1000000)) = t + gp := by rw [ms_mul]; exact nrm_in (by omega) (by omega)
  go_enter Try.func74, Try.ntmps74
  go_wp2_with (go_at_call 78; refine (add_any _ _ (by omega) (by omega) (by omega) (by omega) _).mono ?_; rintro e w' ⟨rfl, rfl⟩)
  go_ret
  exact ⟨_, rfl, kIf_new _ _ (Nat.le_refl _) _ _ rfl, by repeat (first | exact Below.refl _ _ | apply below_alloc | apply below_drew | apply pw_below_drewN | refine below_set ?_ (by simp) | (refine Below.setCell ?_ (by simp) _))⟩
/-- The sliding windows of a time, from a start on, as long as the start is behind 'lo'. -/
def slid (p sz lo : Int) : Nat → Int → List Sp
  | 0, _ => []
  | n + 1, st => if lo < st then ⟨false, st, st + sz⟩ :: slid p sz lo n (st - p) else []
theorem slid_yes {p sz lo : Int} {n : Nat} {st : Int} (h : lo < st) : slid p sz lo (n + 1) st = ⟨false, st, st + sz⟩ :: slid p sz lo n (st - p) := by rw [slid, if_pos h]
theorem slid_no {p sz lo : Int} {n : Nat} {st : Int} (h : ¬ lo < st) : slid p sz lo n st = [] := by
  cases n with
  | zero => rfl
  | succ n => rw [slid, if_neg h]
theorem slid_step {p sz lo st : Int} {n : Nat} {acc F : List Sp} (h : lo < st) (e : acc ++ slid p sz lo (n + 1) st = F) : (acc ++ [⟨false, st, st + sz⟩]) ++ slid p sz lo n (st - p) = F := by
  rw [slid_yes h] at e; simpa using e
theorem slid_stop {p sz lo st : Int} {n : Nat} {acc F : List Sp} (h : ¬ lo < st) (e : acc ++ slid p sz lo n st = F) : acc = F := by
  rw [slid_no h] at e; simpa using e
set_option maxHeartbeats 2000000 in
set_option maxRecDepth 100000 in
theorem asg_slid (g : Nat) (sz p t : Int) (h1 : 1 ≤ sz) (h2 : sz ≤ 1000000000) (p1 : 1 ≤ p) (p2 : p ≤ 1000000000) (h3 : 0 ≤ t) (h4 : t ≤ 600000000000000) (w : World) (hp : w.heap[g]? = some (.cells #[.string ⟨#[83, 76, 73]⟩, .int .i64 (sz * 1000000), .int .i64 (p * 1000000), .int .i64 0] 111 (0, 0))) :
    Calls Try.prog 74 #[.pointer (some ⟨g, 0, none⟩), .int .i64 t] w fun e w' => ∃ v : Value, e = .returned v ∧ Kd.R kIf 73 w' w.heap.size (fun _ => True) v (slid p sz (t - sz) sz.toNat (t - t % p)) ∧ Below w.heap.size w w' := by
  have hc0 : w.cell? ⟨g, 0, none⟩ = some (.string ⟨#[83, 76, 73]⟩) := (blk_cell hp 0).trans rfl
  have hc1 : w.cell? ⟨g, 1, none⟩ = some (.int .i64 (sz * 1000000)) := (blk_cell hp 1).trans rfl
  have hc2 : w.cell? ⟨g, 2, none⟩ = some (.int .i64 (p * 1000000)) := (blk_cell hp 2).trans rfl
  clear hp
  have e1 : nrm (t - msOf (sz * 1000000)) = t - sz := by rw [ms_mul]; exact nrm_in (by omega) (by omega)
  have e2 : nrm (msOf (p * 1000000)) = p := by rw [ms_mul]; exact nrm_in (by omega) (by omega)
  have m1 := Int.emod_nonneg t (show p ≠ 0 by omega)
  have m2 := Int.emod_lt_of_pos t (show 0 < p by omega)
  have HB := Aside0.mk (Below.refl w.heap.size w)
  obtain ⟨F, hF⟩ : ∃ F, slid p sz (t - sz) sz.toNat (t - t % p) = F := ⟨_, rfl⟩
  rw [hF]
  have HF := Aside0.mk hF
  clear hF
  go_enter Try.func74, Try.ntmps74
  go_wp2_with (go_at_call 80; refine (fromDur_any _ (by omega) (by omega) _).mono ?_; rintro e w' ⟨rfl, rfl⟩)
  go_loopg [7, 10] sz.toNat (fun kq v7 v10 w' => ∃ (acc : List Sp) (st : Int), v10 = .int .i64 st ∧ Aside0 (acc ++ slid p sz (t - sz) kq st = F) ∧ Aside0 (st - (t - sz) ≤ kq) ∧ st ≤ t ∧ t - sz - p < st ∧ Aside0 (acc.length + kq ≤ 1000000000) ∧ Aside0 (Kd.R kIf 73 w' w.heap.size (fun _ => True) v7 acc) ∧ Aside0 (Below w.heap.size w w'))
  case atStart => exact ⟨[], t - t % p, rfl, ⟨by rw [List.nil_append]; exact HF.out⟩, ⟨by omega⟩, by omega, by omega, ⟨by simp; omega⟩, ⟨Kd.R_nil _ _ _ _ _⟩, HB⟩
  case round =>
    clear HB HF
    obtain ⟨acc, st, rfl, HA, HK, hs1, hs2, HL, HO, HB⟩ := hrel
    replace hc0 := (HB.out.cell (World.block_lt_of_cell? w _ hc0)).trans hc0
    replace hc1 := (HB.out.cell (World.block_lt_of_cell? w _ hc1)).trans hc1
    replace hc2 := (HB.out.cell (World.block_lt_of_cell? w _ hc2)).trans hc2
    by_cases hlt : t - sz < st
    · obtain ⟨n, hn⟩ : ∃ n, gk = n + 1 := ⟨gk - 1, by have := HK.out; omega⟩
      subst hn
      have e3 : nrm (st + msOf (sz * 1000000)) = st + sz := by rw [ms_mul]; exact nrm_in (by omega) (by omega)
      have HS := Aside0.mk (slid_step hlt HA.out)
      go_wp2_with (first | (go_at_call 79; refine (sub_any _ _ (by omega) (by omega) (by omega) (by omega) _).mono ?_; rintro e w' ⟨rfl, rfl⟩) | (go_at_call 78; refine (add_any _ _ (by omega) (by omega) (by omega) (by omega) _).mono ?_; rintro e w' ⟨rfl, rfl⟩) | ((with_reducible refine gate_builtin (b := .append) (xs := #[.tmp 72, .tmp 82]) rfl ?_); at_builtin; refine Kd.R_append kIf (w0 := w) w.heap.size rfl (.tmp 72) (.tmp 82) 62 73 .nilIface 16 rfl Try.underlying62 info73 rfl (by decide) (by omega) u7 acc ⟨false, st, st + sz⟩ [.iface 107 (.agg #[.int .i64 st, .int .i64 (st + sz)])] (fun _ => True) (fun _ => False) rfl (by first | (go_simp; done) | (go_simp; rfl)) ?aP (fun _ hk => hk.elim) ?aF ?aO ?aB ?aS ?aL ?_; (case aP => exact rfl); (case aB => exact (by repeat (first | (with_reducible first | exact HB.out | apply below_alloc | apply pw_below_drewN | apply below_drew1) | exact HB.out))); (case aF => exact (fun _ _ => trivial)); (case aO => exact (by (with_reducible repeat (first | apply Kd.R_alloc | apply Kd.R_drewN | apply Kd.R_drew)); exact HO.out)); (case aS => exact (below_size (by repeat (first | (with_reducible first | exact HB.out | apply below_alloc | apply pw_below_drewN | apply below_drew1) | exact HB.out)))); (case aL => have := HL.out; omega); intro v107 w8 ho hb hg hat; have n1_ := Aside0.mk (hb); have n2_ := Aside0.mk (ho); clear HB; clear HO; have HB := n1_; have HO := n2_; clear n1_ n2_; clear ho hb hg hat))
      go_roundg n
      case measure => omega
      case rel => exact ⟨acc ++ [⟨false, st, st + sz⟩], st - p, rfl, HS, ⟨by have := HK.out; omega⟩, by omega, by omega, ⟨by have := HL.out; simp; omega⟩, HO, HB⟩
    · have HS := Aside0.mk (slid_stop hlt HA.out)
      go_wp2_with (go_at_call 79; refine (sub_any _ _ (by omega) (by omega) (by omega) (by omega) _).mono ?_; rintro e w' ⟨rfl, rfl⟩)
      go_ret
      have HO' := HO.out
      rw [HS.out] at HO'
      exact ⟨_, rfl, HO', HB.out⟩

/-- The windows of a time. -/
def placed (f : WF) (t : Int) : List Sp :=
  if f.k = 1 then [⟨false, fxs f.sz t, fxs f.sz t + f.sz⟩]
  else if f.k = 2 then slid f.pd f.sz (t - f.sz) f.sz.toNat (t - t % f.pd)
  else if f.k = 3 then [⟨false, t, t + f.gp⟩]
  else [⟨true, 0, 0⟩]
structure FT (f : WF) (t : Int) : Prop where
  s : In9 f.sz
  p : In9 f.pd
  g : In9 f.gp
  f1 : f.k = 1 → 1 ≤ f.sz ∧ -f.sz ≤ t
  f2 : f.k = 2 → 1 ≤ f.sz ∧ 1 ≤ f.pd ∧ 0 ≤ t
  f3 : f.k = 3 → 0 ≤ t
  t1 : t ≤ 600000000000000
theorem slid_nz (p sz lo : Int) : ∀ n st, (slid p sz lo n st).map nz = slid p sz lo n st
  | 0, _ => rfl
  | n + 1, st => by
    by_cases h : lo < st
    · rw [slid_yes h, List.map_cons, slid_nz p sz lo n (st - p)]; rfl
    · rw [slid_no h]; rfl
theorem placed_nz (f : WF) (t : Int) : (placed f t).map nz = placed f t := by
  unfold placed
  split
  · rfl
  · split
    · exact slid_nz _ _ _ _ _
    · split <;> rfl
theorem slid_len (p sz lo : Int) : ∀ n st, (slid p sz lo n st).length ≤ n
  | 0, _ => Nat.le_refl _
  | n + 1, st => by
    by_cases h : lo < st
    · rw [slid_yes h, List.length_cons]; have := slid_len p sz lo n (st - p); omega
    · rw [slid_no h]; simp
theorem placed_len {f : WF} {t : Int} (h : In9 f.sz) : (placed f t).length ≤ 1000000000 := by
  have := h.2
  unfold placed
  split
  · simp
  · split
    · have := slid_len f.pd f.sz (t - f.sz) f.sz.toNat (t - t % f.pd); omega
    · split <;> simp
theorem asg_any (g : Nat) (f : WF) (t : Int) (h : FT f t) (w : World) (hp : w.heap[g]? = some (.cells f.cells 111 (0, 0))) :
    Calls Try.prog 74 #[.pointer (some ⟨g, 0, none⟩), .int .i64 t] w fun e w' => ∃ v : Value, e = .returned v ∧ Kd.R kIf 73 w' w.heap.size (fun _ => True) v (placed f t) ∧ Below w.heap.size w w' := by
  obtain ⟨⟨s0, s1⟩, ⟨p0, p1⟩, ⟨g0, g1⟩, f1, f2, f3, t1⟩ := h
  unfold WF.cells at hp
  unfold placed
  by_cases k1 : f.k = 1
  · rw [if_pos k1] at hp ⊢
    exact asg_fixed g f.sz t (f1 k1).1 s1 (f1 k1).2 t1 w hp
  · rw [if_neg k1] at hp ⊢
    by_cases k2 : f.k = 2
    · rw [if_pos k2] at hp ⊢
      exact asg_slid g f.sz f.pd t (f2 k2).1 s1 (f2 k2).2.1 p1 (f2 k2).2.2 t1 w hp
    · rw [if_neg k2] at hp ⊢
      by_cases k3 : f.k = 3
      · rw [if_pos k3] at hp ⊢
        exact asg_sess g f.gp t g0 g1 (f3 k3) t1 w hp
      · rw [if_neg k3] at hp ⊢
        exact asg_global g t w hp
theorem assign_any (g : Nat) (f : WF) (t : Int) (h : FT f t) (w : World) (hp : w.heap[g]? = some (.cells f.cells 111 (0, 0))) :
    Calls Try.prog 50 #[.pointer (some ⟨g, 0, none⟩), .int .i64 t] w fun e w' => ∃ v : Value, e = .returned v ∧ Kd.R kIf 73 w' w.heap.size (fun _ => True) v (placed f t) ∧ Below w.heap.size w w' := by
  have HP := Aside0.mk hp
  have HF := Aside0.mk h
  clear hp h
  go_enter Try.func50, Try.ntmps50
  go_wp2_with (go_at_call 74; refine (asg_any g f t HF.out _ HP.out).mono ?_; rintro e w' ⟨v_, rfl, hR, hb⟩; have HO := Aside0.mk hR; have HB := Aside0.mk hb; clear hR hb)
  go_ret
  exact ⟨_, rfl, HO.out, HB.out⟩
set_option maxRecDepth 100000 in
theorem winAssign_any (f : WF) (t : Int) (h : FT f t) (w : World) :
    Calls Try.prog 21 #[f.val, .int .i64 t] w fun e w' => ∃ v : Value, e = .returned v ∧ Kd.R kSp 36 w' w.heap.size (fun _ => True) v (placed f t) ∧ Below w.heap.size w w' := by
  have HF := Aside0.mk h
  clear h
  show Calls Try.prog 21 #[.agg #[.int .u8 f.k, .int .i64 f.sz, .int .i64 f.pd, .int .i64 f.gp], .int .i64 t] w _
  go_enter Try.func21, Try.ntmps21
  go_wp2_with (first
    | (go_at_call 51; refine (winFn_any f HF.out.s HF.out.p HF.out.g _).mono ?_; rintro e w1 ⟨g_, rfl, hg1, hg2, hb⟩; have HG := Aside0.mk hg2; have HB := Aside0.mk ((below_alloc (Below.refl w.heap.size w) _).trans (hb.mono (by simp))); clear hg1 hg2 hb)
    | (go_at_call 50; refine (assign_any g_ f t HF.out _ HG.out).mono ?_; rintro e w2 ⟨v_, rfl, hR, hb⟩; have n1 := Aside0.mk (below_then HB.out HB.out.size hb); have n2 := Aside0.mk (Kd.R_reads hR); clear HB HG hR hb; have HB := n1; have HR := n2; clear n1 n2; obtain ⟨A_, c_, hv_, hc_, hC_⟩ := HR.out; subst hv_; clear HR; have HC := Aside0.mk hc_; have HCC := Aside0.mk hC_; clear hc_ hC_)
    | (go_at_call 49; refine (backWins_any A_ c_ (placed f t) _ HCC.out HC.out (by have := placed_len (t := t) HF.out.s; omega)).mono ?_; rintro e w3 ⟨v3_, rfl, hR, hb⟩; rw [placed_nz] at hR; have n1 := Aside0.mk (below_then HB.out HB.out.size hb); have n2 := Aside0.mk (Kd.R_lower hR (below_size HB.out)); clear HB hR hb; have HB := n1; have HO := n2; clear n1 n2))
  go_ret
  exact ⟨_, rfl, HO.out, HB.out⟩
end Go.Proofs.Ytdifeleddhefnaa
