/- Contracts: the answers' methods by their cells alone. -/
import Derived.Test.YtoigekmdicepnaaSp
set_option linter.unusedVariables false
set_option linter.unusedSimpArgs false
namespace Go.Proofs.Ytoigekmdicepnaa
open Go.RowKit Go.Proofs.YtoigekmdicepnaaW.PrintWords Go.Proofs.YtoigekmdicepnaaW.PrintLast Go.Proofs.YtoigekmdicepnaaW.PrintMore
open PFnMapState (S26 k26 S36 k36 k26_open k36_mkM k36_open z26 z36)

set_option maxRecDepth 100000 in
set_option maxHeartbeats 1000000 in
theorem next_raw (w : World) (a : Nat) (ad : Addr) (m c : Nat) (b : Bool) (A1 A2 A3 : Option Addr) (n1 c1 n2 c2 n3 c3 : Nat) (h1 : w.heap[a]? = some (.cells #[.slice (some ad) (m + 1) c, .bool true] 32 (0, 0)))
    (x0 : w.cell? ad = some (.bool b)) (x1 : w.cell? ⟨ad.block, ad.off + 1, none⟩ = some (.slice A1 n1 c1)) (x2 : w.cell? ⟨ad.block, ad.off + 2, none⟩ = some (.slice A2 n2 c2)) (x3 : w.cell? ⟨ad.block, ad.off + 3, none⟩ = some (.slice A3 n3 c3)) (hc : m + 1 ≤ c) (hl : m ≤ 1000000) :
    Calls Try.prog 15 #[.pointer (some ⟨a, 0, none⟩)] w fun e w' => e = .returned (.agg #[.bool b, .slice A1 n1 c1, .slice A2 n2 c2, .slice A3 n3 c3]) ∧ w'.heap[a]? = some (.cells #[.slice (if c = 1 then some ad else some (ad.add 4)) m (c - 1), .bool true] 32 (0, 0)) ∧ w.grownBy w' (some a) := by
  have H1 := Aside0.mk h1
  have y0 := fun o => (blk_cell (blk_alloc h1 o) 0).trans (rfl : _ = some (Value.slice (some ad) (m + 1) c))
  have y1 := fun o o2 => (blk_cell (blk_alloc (blk_alloc h1 o) o2) 0).trans (rfl : _ = some (Value.slice (some ad) (m + 1) c))
  have fz := fun o o2 => blk_frozen (blk_alloc (blk_alloc h1 o) o2) 0
  have z0 := fun o => pw_cell_below (below_alloc (Below.refl w.heap.size w) o) x0
  have z1 := fun o => pw_cell_below (below_alloc (Below.refl w.heap.size w) o) x1
  have z2 := fun o => pw_cell_below (below_alloc (Below.refl w.heap.size w) o) x2
  have z3 := fun o => pw_cell_below (below_alloc (Below.refl w.heap.size w) o) x3
  have hq1 : ((m : Int) + 1 == 0) = false := beq_eq_false_iff_ne.2 (by omega)
  have hq2 : (0 : Int) < (m : Int) + 1 := by omega
  have n1 : a ≠ w.heap.size := by have := blk_lt h1; omega
  have n2 : a ≠ w.heap.size + 1 := by have := blk_lt h1; omega
  have n3 := n1.symm
  have n4 := n2.symm
  have q4 : 1 ≤ c := by omega
  have q5 : (m : Int) ≤ 1000000 := by omega
  clear hl h1 x0 x1 x2 x3
  by_cases hc1 : c = 1
  · obtain rfl : m = 0 := by omega
    subst hc1
    rw [if_pos rfl]
    go_enter Try.func15, Try.ntmps15
    go_wp2
    go_returns
    refine ⟨rfl, ?_, ?_⟩
    · exact blk_far (p := ⟨w.heap.size, 3, none⟩) (blk_far (p := ⟨w.heap.size, 2, none⟩) (blk_far (p := ⟨w.heap.size, 1, none⟩) (blk_far (p := ⟨w.heap.size, 0, none⟩) (blk_set (blk_alloc (blk_alloc H1.out _) _) 0 _) n1 _) n1 _) n1 _) n1 _
    · exact gb_new (gb_new (gb_new (gb_new (gb_at (gb_alloc (gb_alloc (gb_refl _ _) _) _) 0 _) 0 _) 1 _) 2 _) 3 _
  · rw [if_neg hc1]
    go_enter Try.func15, Try.ntmps15
    go_wp2
    go_returns
    refine ⟨rfl, ?_, ?_⟩
    · exact blk_far (p := ⟨w.heap.size, 3, none⟩) (blk_far (p := ⟨w.heap.size, 2, none⟩) (blk_far (p := ⟨w.heap.size, 1, none⟩) (blk_far (p := ⟨w.heap.size, 0, none⟩) (blk_set (blk_alloc (blk_alloc H1.out _) _) 0 _) n1 _) n1 _) n1 _) n1 _
    · exact gb_new (gb_new (gb_new (gb_new (gb_at (gb_alloc (gb_alloc (gb_refl _ _) _) _) 0 _) 0 _) 1 _) 2 _) 3 _
set_option maxRecDepth 100000 in
theorem check_raw (w : World) (a : Nat) (A : Option Addr) (n c : Nat) (h1 : w.heap[a]? = some (.cells #[.slice A n c, .bool true] 32 (0, 0))) :
    Calls Try.prog 16 #[.pointer (some ⟨a, 0, none⟩), .bool true] w fun e w' => e = .returned (.tuple #[]) ∧ w'.heap[a]? = some (.cells #[.slice A n c, .bool true] 32 (0, 0)) ∧ w.grownBy w' (some a) := by
  have y1 := (blk_cell h1 1).trans (rfl : _ = some (Value.bool true))
  have f1 := blk_frozen h1 1
  have H1 := Aside0.mk (blk_set h1 1 (.bool true))
  clear h1
  go_enter Try.func16, Try.ntmps16
  go_wp2
  go_end0
  exact ⟨rfl, H1.out, gb_at (gb_refl _ _) 1 _⟩
set_option maxRecDepth 100000 in
theorem end_raw (w : World) (a : Nat) (A : Option Addr) (c : Nat) (h1 : w.heap[a]? = some (.cells #[.slice A 0 c, .bool true] 32 (0, 0))) :
    Calls Try.prog 18 #[.pointer (some ⟨a, 0, none⟩)] w fun e w' => e = .returned (.bool true) ∧ w = w' := by
  have y0 := (blk_cell h1 0).trans (rfl : _ = some (Value.slice A 0 c))
  have y1 := (blk_cell h1 1).trans (rfl : _ = some (Value.bool true))
  clear h1
  go_enter Try.func18, Try.ntmps18
  go_wp2
  go_ret
  exact ⟨rfl, rfl⟩
/-- The answers that are left: their slice in block a, and their rows, the call's own. -/
structure AQ (w : World) (base a : Nat) (xs : List S36) : Prop where
  q : ∃ A c, w.heap[a]? = some (.cells #[.slice A xs.length c, .bool true] 32 (0, 0)) ∧ k36.Q 36 w base (fun _ => True) (.slice A xs.length c) xs
theorem AQ.below {w w' : World} {base a : Nat} {xs : List S36} (h : AQ w base a xs) (hb : Below w.heap.size w w') : AQ w' base a xs := by
  obtain ⟨A, c, h1, h2⟩ := h.q
  exact ⟨A, c, blk_below h1 hb, Kd.Q_below h2 hb⟩
theorem AQ.ha {w : World} {base a : Nat} {xs : List S36} (h : AQ w base a xs) : ∃ cs, w.heap[a]? = some (.cells cs 32 (0, 0)) := by
  obtain ⟨A, c, h1, _⟩ := h.q
  exact ⟨_, h1⟩
theorem AQ.set {w : World} {base a g t : Nat} {cells : Array Value} {xs : List S36} (h : AQ w base a xs) (hb : w.heap[g]? = some (.cells cells t (0, 0))) (h1 : t ≠ 32) (ht : ∀ q, q ∈ 36 :: k36.E → q ≠ t) (j : Nat) (u : Value) : AQ (w.setCell ⟨g, j, none⟩ u) base a xs := by
  obtain ⟨A, c, ha, h2⟩ := h.q
  refine ⟨A, c, blk_far (p := ⟨g, j, none⟩) ha (fun e => ?_) _, Kd.Q_set h2 hb ht j u⟩
  subst e
  rw [ha] at hb
  injection hb with hb; injection hb with _ hb
  exact h1 hb.symm
theorem Q_but {α : Type} {d : Kd α} {e base : Nat} {W w1 : World} {ok : Nat → Prop} {u : Value} {xs : List α} {a e' : Nat} {cs : Array Value} (h : d.Q e W base ok u xs) (ha : W.heap[a]? = some (.cells cs e' (0, 0))) (ht : ∀ q, q ∈ e :: d.E → q ≠ e') (hg : W.grownBy w1 (some a)) : d.Q e w1 base ok u xs :=
  Kd.Q_over' (v := .slice (some ⟨a, 0, none⟩) 0 0) h (fun k hk => by
    have hk' : a = k := by simpa [Value.ownBlock] using hk
    subst hk'
    exact ⟨_, ha⟩) ht (by simpa [Value.ownBlock] using hg)
/-- The rows stay where block a alone turns. -/
theorem R_aq {α : Type} {d : Kd α} {e base b2 : Nat} {w w1 : World} {ok : Nat → Prop} {u : Value} {ys : List α} {a : Nat} {xs : List S36} (h : d.R e w base ok u ys) (ha : AQ w b2 a xs) (ht : ∀ q, q ∈ e :: d.E → q ≠ 32) (hg : w.grownBy w1 (some a)) : d.R e w1 base ok u ys := by
  obtain ⟨cs, h1⟩ := ha.ha
  exact R_but h h1 ht hg
/-- An answer is taken. -/
theorem next_q (w : World) (base a : Nat) (x : S36) (xs : List S36) (h : AQ w base a (x :: xs)) (hl : xs.length ≤ 1000000) :
    Calls Try.prog 15 #[.pointer (some ⟨a, 0, none⟩)] w fun e w' => ∃ A1 c1 A2 c2 A3 c3, e = .returned (.agg #[.bool x.f0, .slice A1 x.f1.length c1, .slice A2 x.f2.length c2, .slice A3 x.f3.length c3]) ∧ (Kd.int .i64).R 2 w' base (fun _ => True) (.slice A1 x.f1.length c1) x.f1 ∧ Kd.string.R 9 w' base (fun _ => True) (.slice A2 x.f2.length c2) x.f2 ∧ (Kd.int .i64).R 2 w' base (fun _ => True) (.slice A3 x.f3.length c3) x.f3 ∧ AQ w' base a xs ∧ w.grownBy w' (some a) := by
  obtain ⟨A, c, h1, h2⟩ := h.q
  obtain ⟨g, o, cap, hv, hb, hlt, _⟩ := Kd.Q_form h2 (by simp)
  injection hv with hA hn hcap
  subst hA; subst hcap
  have hQ := h2
  obtain ⟨cs, hcl, hM, hcc, _⟩ := Kd.Q_elem h2 x 0 (by omega) (by simp)
  obtain ⟨v1, v2, v3, rfl, r1, r2, r3⟩ := PFnMapState.k36_openM hM
  simp only [Int.toNat_zero, List.getD_cons_zero] at r1 r2 r3 hcc
  obtain ⟨A1, c1, rfl⟩ := Kd.R_slice r1
  obtain ⟨A2, c2, rfl⟩ := Kd.R_slice r2
  obtain ⟨A3, c3, rfl⟩ := Kd.R_slice r3
  have y0 := hcc 0 _ rfl
  have y1 := hcc 1 _ rfl
  have y2 := hcc 2 _ rfl
  have y3 := hcc 3 _ rfl
  simp only [Nat.zero_mul, Nat.add_zero] at y0 y1 y2 y3
  have hnc := (Kd.Q_reads' h2).2.1
  rw [List.length_cons] at h1 hnc
  refine (next_raw w a ⟨g, o, none⟩ xs.length c x.f0 A1 A2 A3 _ c1 _ c2 _ c3 h1 y0 y1 y2 y3 hnc hl).mono ?_
  rintro e w' ⟨he, hb2, hgr⟩
  have hd := Kd.Q_drop (k := 1) hQ (by simp)
  refine ⟨A1, c1, A2, c2, A3, c3, he, R_but (Kd.R_mono r1 (fun _ _ => trivial)) h1 (by decide) hgr, R_but (Kd.R_mono r2 (fun _ _ => trivial)) h1 (by decide) hgr, R_but (Kd.R_mono r3 (fun _ _ => trivial)) h1 (by decide) hgr, ⟨_, _, hb2, ?_⟩, hgr⟩
  have hd2 := Q_but hd h1 (by decide) hgr
  have e1 : (if c = 1 then some (⟨g, o, none⟩ : Addr) else Option.map (fun x : Addr => x.add (1 * k36.sz)) (some ⟨g, o, none⟩)) = (if c = 1 then some (⟨g, o, none⟩ : Addr) else some ((⟨g, o, none⟩ : Addr).add 4)) := rfl
  have e2 : (x :: xs).length - 1 = xs.length := by simp
  rw [e1, e2] at hd2
  exact hd2
theorem check_q (w : World) (base a : Nat) (xs : List S36) (h : AQ w base a xs) :
    Calls Try.prog 16 #[.pointer (some ⟨a, 0, none⟩), .bool true] w fun e w' => e = .returned (.tuple #[]) ∧ AQ w' base a xs ∧ w.grownBy w' (some a) := by
  obtain ⟨A, c, h1, h2⟩ := h.q
  exact (check_raw w a A _ c h1).mono fun e w' ⟨he, hb2, hgr⟩ => ⟨he, ⟨A, c, hb2, Q_but h2 h1 (by decide) hgr⟩, hgr⟩
theorem end_q (w : World) (base a : Nat) (h : AQ w base a []) :
    Calls Try.prog 18 #[.pointer (some ⟨a, 0, none⟩)] w fun e w' => e = .returned (.bool true) ∧ w = w' := by
  obtain ⟨A, c, h1, h2⟩ := h.q
  exact end_raw w a A c h1
/-- A row of the call's own beside the answers' rows: an append to it leaves them. -/
theorem AQ.grown {w w' : World} {base a : Nat} {xs : List S36} {α : Type} {d : Kd α} {e b2 : Nat} {ok : Nat → Prop} {v : Value} {ys : List α} (h : AQ w base a xs) (hR : d.R e w b2 ok v ys) (hne : e ≠ 32) (ht : ∀ q, q ∈ 36 :: k36.E → q ≠ e) (hg : w.grownBy w' v.ownBlock) : AQ w' base a xs := by
  obtain ⟨A, c, h1, h2⟩ := h.q
  exact ⟨A, c, blk_grown h1 hg (Kd.R_ne hR h1 hne), Kd.Q_over' h2 (Kd.R_typed hR) ht hg⟩
end Go.Proofs.Ytoigekmdicepnaa
