/- Contracts and plain laws, several texts in one. -/
import Derived.Test.YtgdbeiadlgkedaaGreatDoorMHeaderRead8
import Derived.Test.YtgdbeiadlgkedaaGreatDoorMHeaderRead10
import Derived.Test.YtgdbeiadlgkedaaGreatDoorMHeaderRead11
set_option linter.unusedVariables false
set_option linter.unusedSimpArgs false
namespace Go.Proofs.YtgdbeiadlgkedaaGreatDoor
open Go.RowKit PFnWindowOne Go.Proofs.YtgdbeiadlgkedaaGreatDoorW.PrintWords
set_option maxHeartbeats 4000000 in
set_option maxRecDepth 100000 in
theorem pr_emptyZ (w : World) : Calls Tryz.prog 59 #[.string ⟨#[]⟩] w fun e w' => e = .returned (.tuple #[.agg #[.int .i64 0, .bool false, .bool false, .int .i64 0, .int .i64 0], .int .i64 0, .int .i64 1]) ∧ Below w.heap.size w w' := by
  go_enter Tryz.func59, Tryz.ntmps59
  go_wp2
  have hz := heap_alloc_new w (.cells #[.int .i64 0, .bool false, .bool false, .int .i64 0, .int .i64 0] 50)
  have HB := Lib.hid (below_alloc (Below.refl w.heap.size w) (.cells #[.int .i64 0, .bool false, .bool false, .int .i64 0, .int .i64 0] 50))
  generalize w.alloc (.cells #[.int .i64 0, .bool false, .bool false, .int .i64 0, .int .i64 0] 50) = X at hz HB ⊢
  obtain ⟨c0, c1, c2, c3, c4⟩ := laid5 hz
  exact bodyPost_ret (v := .tuple #[.agg #[.int .i64 0, .bool false, .bool false, .int .i64 0, .int .i64 0], .int .i64 0, .int .i64 1]) (by simp [results, Tryz.results59, go_sem, c0, c1, c2, c3, c4]; try rfl) rfl ⟨rfl, HB.out⟩
theorem paneRead_right (s : ByteArray) (hs : s.size ≤ 4294967296) (t : Nat) (f l : Bool) (i n : Int) (k : Nat) (hp : rdPane s.data.toList = .right t f l i n k) (w : World) :
    Calls Tryz.prog 59 #[.string s] w fun e w' => e = .returned (.tuple #[.agg #[.int .i64 (t : Nat), .bool f, .bool l, .int .i64 i, .int .i64 n], .int .i64 (k : Nat), .int .i64 0]) ∧ Below w.heap.size w w' := by
  cases hd : s.data.toList with
  | nil => rw [hd] at hp; cases hp
  | cons x r =>
    rw [hd] at hp
    simp only [rdPane] at hp
    by_cases c0 : x.toNat / 16 = 0
    · rw [if_pos c0] at hp
      injection hp with e1 e2 e3 e4 e5 e6
      subst e1 e2 e3 e4 e5 e6
      exact pr_0 s w x r hd c0
    rw [if_neg c0] at hp
    by_cases c1 : x.toNat / 16 = 1
    · rw [if_pos c1] at hp
      cases hv : vrd 0 0 r with
      | none => rw [hv] at hp; cases hp
      | some p =>
        obtain ⟨v, kk⟩ := p
        rw [hv] at hp
        injection hp with e1 e2 e3 e4 e5 e6
        subst e1 e2 e3 e4 e5 e6
        by_cases y : x.toNat / 4 % 4 = 0
        · rw [if_pos y]; exact pr_1z s w x r hd hs c1 y v kk hv
        · rw [if_neg y]; exact pr_1 s w x r hd hs c1 y v kk hv
    rw [if_neg c1] at hp
    by_cases c2 : x.toNat / 16 = 2
    · rw [if_pos c2] at hp
      cases hv : vrd 0 0 r with
      | none => rw [hv] at hp; cases hp
      | some p =>
        obtain ⟨v, kk⟩ := p
        rw [hv] at hp
        simp only at hp
        cases hv2 : vrd 0 0 (r.drop kk) with
        | none => rw [hv2] at hp; cases hp
        | some p2 =>
          obtain ⟨v2, k2⟩ := p2
          rw [hv2] at hp
          injection hp with e1 e2 e3 e4 e5 e6
          subst e1 e2 e3 e4 e5 e6
          exact pr_2 s w x r hd hs c2 v kk v2 k2 hv hv2
    · rw [if_neg c2] at hp; cases hp
theorem paneRead_wrong (s : ByteArray) (hs : s.size ≤ 4294967296) (hp : rdPane s.data.toList = .wrong) (w : World) :
    Calls Tryz.prog 59 #[.string s] w fun e w' => e = .returned (.tuple #[.agg #[.int .i64 0, .bool false, .bool false, .int .i64 0, .int .i64 0], .int .i64 0, .int .i64 1]) ∧ Below w.heap.size w w' := by
  cases hd : s.data.toList with
  | nil =>
    obtain rfl : s = ⟨#[]⟩ := str_ext0 hd
    exact pr_emptyZ w
  | cons x r =>
    rw [hd] at hp
    simp only [rdPane] at hp
    by_cases c0 : x.toNat / 16 = 0
    · rw [if_pos c0] at hp; cases hp
    rw [if_neg c0] at hp
    by_cases c1 : x.toNat / 16 = 1
    · rw [if_pos c1] at hp
      cases hv : vrd 0 0 r with
      | none => exact pr_bad1 s w x r hd hs (.inl c1) hv
      | some p => obtain ⟨v, kk⟩ := p; rw [hv] at hp; cases hp
    rw [if_neg c1] at hp
    by_cases c2 : x.toNat / 16 = 2
    · rw [if_pos c2] at hp
      cases hv : vrd 0 0 r with
      | none => exact pr_bad1 s w x r hd hs (.inr c2) hv
      | some p =>
        obtain ⟨v, kk⟩ := p
        rw [hv] at hp
        simp only at hp
        cases hv2 : vrd 0 0 (r.drop kk) with
        | none => exact pr_bad2 s w x r hd hs c2 v kk hv hv2
        | some p2 => obtain ⟨v2, k2⟩ := p2; rw [hv2] at hp; cases hp
    · rw [if_neg c2] at hp; cases hp
theorem paneRead_unsaid (s : ByteArray) (hp : rdPane s.data.toList = .unsaid) (w : World) :
    Calls Tryz.prog 59 #[.string s] w fun e w' => e = .returned (.tuple #[.agg #[.int .i64 0, .bool false, .bool false, .int .i64 0, .int .i64 0], .int .i64 0, .int .i64 2]) ∧ Below w.heap.size w w' := by
  cases hd : s.data.toList with
  | nil => rw [hd] at hp; cases hp
  | cons x r =>
    rw [hd] at hp
    simp only [rdPane] at hp
    by_cases c0 : x.toNat / 16 = 0
    · rw [if_pos c0] at hp; cases hp
    rw [if_neg c0] at hp
    by_cases c1 : x.toNat / 16 = 1
    · rw [if_pos c1] at hp
      cases hv : vrd 0 0 r with
      | none => rw [hv] at hp; cases hp
      | some p => obtain ⟨v, kk⟩ := p; rw [hv] at hp; cases hp
    rw [if_neg c1] at hp
    by_cases c2 : x.toNat / 16 = 2
    · rw [if_pos c2] at hp
      cases hv : vrd 0 0 r with
      | none => rw [hv] at hp; cases hp
      | some p =>
        obtain ⟨v, kk⟩ := p
        rw [hv] at hp
        simp only at hp
        cases hv2 : vrd 0 0 (r.drop kk) with
        | none => rw [hv2] at hp; cases hp
        | some p2 => obtain ⟨v2, k2⟩ := p2; rw [hv2] at hp; cases hp
    · exact pr_un s w x r hd (by omega)
theorem numS (s : ByteArray) (hs : s.size < 8) (W : World) : Calls Tryz.prog 57 #[.string s, .int .i64 8] W fun e w' => e = .returned (.tuple #[.int .u64 0, .int .i64 1]) ∧ Below W.heap.size W w' :=
  (PFnWindowsRead.spec_codNumber.calls 10 s 8 _ _ W (num_bad s 8 hs)).mono fun _ _ ⟨a, b⟩ => ⟨a, b.below⟩
theorem numR (s : ByteArray) (hs : 8 ≤ s.size) (W : World) : Calls Tryz.prog 57 #[.string s, .int .i64 8] W fun e w' => e = .returned (.tuple #[.int .u64 (Lib.beNat (s.data.toList.take 8) : Nat), .int .i64 0]) ∧ Below W.heap.size W w' :=
  (PFnWindowsRead.spec_codNumber.calls 10 s 8 _ _ W (num_f s 8 (by decide) hs)).mono fun _ _ ⟨a, b⟩ => ⟨a, b.below⟩
theorem R_set9 {x : World} {b base : Nat} {v : Value} {l : List PFnWindowsRead.S32} (h : Kd.R PFnWindowsRead.k32 32 x base (fun _ => True) v l) (hb : b < base) (v0 v1 v2 v3 v4 v5 v6 v7 v8 : Value) : Kd.R PFnWindowsRead.k32 32 (((((((((x.setCell ⟨b, 0, none⟩ v0).setCell ⟨b, 1, none⟩ v1).setCell ⟨b, 2, none⟩ v2).setCell ⟨b, 3, none⟩ v3).setCell ⟨b, 4, none⟩ v4).setCell ⟨b, 5, none⟩ v5).setCell ⟨b, 6, none⟩ v6).setCell ⟨b, 7, none⟩ v7).setCell ⟨b, 8, none⟩ v8) base (fun _ => True) v l :=
  Kd.R_mono (Kd.R_move (Kd.R_bound h) (fun k hk => by
    obtain ⟨_, h1, _⟩ := hk
    have hne : k ≠ b := by omega
    exact (Below.heap_setCell _ _ _ _ hne).trans ((Below.heap_setCell _ _ _ _ hne).trans ((Below.heap_setCell _ _ _ _ hne).trans ((Below.heap_setCell _ _ _ _ hne).trans ((Below.heap_setCell _ _ _ _ hne).trans ((Below.heap_setCell _ _ _ _ hne).trans ((Below.heap_setCell _ _ _ _ hne).trans ((Below.heap_setCell _ _ _ _ hne).trans (Below.heap_setCell _ _ _ _ hne)))))))))) (fun _ _ => trivial)
theorem D1.cells9 {w x : World} {v0 v1 v2 v3 v4 v5 v6 v7 v8 : Value} {T : TypeId} (h : D1 w #[v0, v1, v2, v3, v4, v5, v6, v7, v8] T x) : (x.cell? ⟨w.heap.size, 0, none⟩ = some v0 ∧ x.cell? ⟨w.heap.size, 1, none⟩ = some v1 ∧ x.cell? ⟨w.heap.size, 2, none⟩ = some v2 ∧ x.cell? ⟨w.heap.size, 3, none⟩ = some v3 ∧ x.cell? ⟨w.heap.size, 4, none⟩ = some v4 ∧ x.cell? ⟨w.heap.size, 5, none⟩ = some v5 ∧ x.cell? ⟨w.heap.size, 6, none⟩ = some v6 ∧ x.cell? ⟨w.heap.size, 7, none⟩ = some v7 ∧ x.cell? ⟨w.heap.size, 8, none⟩ = some v8) ∧ (x.frozen? ⟨w.heap.size, 0, none⟩ = false ∧ x.frozen? ⟨w.heap.size, 1, none⟩ = false ∧ x.frozen? ⟨w.heap.size, 2, none⟩ = false ∧ x.frozen? ⟨w.heap.size, 3, none⟩ = false ∧ x.frozen? ⟨w.heap.size, 4, none⟩ = false ∧ x.frozen? ⟨w.heap.size, 5, none⟩ = false ∧ x.frozen? ⟨w.heap.size, 6, none⟩ = false ∧ x.frozen? ⟨w.heap.size, 7, none⟩ = false ∧ x.frozen? ⟨w.heap.size, 8, none⟩ = false) :=
  ⟨⟨(blk_cell h.1 0).trans rfl, (blk_cell h.1 1).trans rfl, (blk_cell h.1 2).trans rfl, (blk_cell h.1 3).trans rfl, (blk_cell h.1 4).trans rfl, (blk_cell h.1 5).trans rfl, (blk_cell h.1 6).trans rfl, (blk_cell h.1 7).trans rfl, (blk_cell h.1 8).trans rfl⟩, ⟨blk_frozen h.1 0, blk_frozen h.1 1, blk_frozen h.1 2, blk_frozen h.1 3, blk_frozen h.1 4, blk_frozen h.1 5, blk_frozen h.1 6, blk_frozen h.1 7, blk_frozen h.1 8⟩⟩
theorem D1.set9 {w x : World} {a0 a1 a2 a3 a4 a5 a6 a7 a8 : Value} {T : TypeId} (h : D1 w #[a0, a1, a2, a3, a4, a5, a6, a7, a8] T x) (v0 v1 v2 v3 v4 v5 v6 v7 v8 : Value) : D1 w #[v0, v1, v2, v3, v4, v5, v6, v7, v8] T (((((((((x.setCell ⟨w.heap.size, 0, none⟩ v0).setCell ⟨w.heap.size, 1, none⟩ v1).setCell ⟨w.heap.size, 2, none⟩ v2).setCell ⟨w.heap.size, 3, none⟩ v3).setCell ⟨w.heap.size, 4, none⟩ v4).setCell ⟨w.heap.size, 5, none⟩ v5).setCell ⟨w.heap.size, 6, none⟩ v6).setCell ⟨w.heap.size, 7, none⟩ v7).setCell ⟨w.heap.size, 8, none⟩ v8) := by
  have h0 : (x.setCell ⟨w.heap.size, 0, none⟩ v0).heap[w.heap.size]? = some (.cells #[v0, a1, a2, a3, a4, a5, a6, a7, a8] T (0, 0)) := (Lib.heap_setCell_same (i := 0) h.1 v0).trans rfl
  have h1 : ((x.setCell ⟨w.heap.size, 0, none⟩ v0).setCell ⟨w.heap.size, 1, none⟩ v1).heap[w.heap.size]? = some (.cells #[v0, v1, a2, a3, a4, a5, a6, a7, a8] T (0, 0)) := (Lib.heap_setCell_same (i := 1) h0 v1).trans rfl
  have h2 : (((x.setCell ⟨w.heap.size, 0, none⟩ v0).setCell ⟨w.heap.size, 1, none⟩ v1).setCell ⟨w.heap.size, 2, none⟩ v2).heap[w.heap.size]? = some (.cells #[v0, v1, v2, a3, a4, a5, a6, a7, a8] T (0, 0)) := (Lib.heap_setCell_same (i := 2) h1 v2).trans rfl
  have h3 : ((((x.setCell ⟨w.heap.size, 0, none⟩ v0).setCell ⟨w.heap.size, 1, none⟩ v1).setCell ⟨w.heap.size, 2, none⟩ v2).setCell ⟨w.heap.size, 3, none⟩ v3).heap[w.heap.size]? = some (.cells #[v0, v1, v2, v3, a4, a5, a6, a7, a8] T (0, 0)) := (Lib.heap_setCell_same (i := 3) h2 v3).trans rfl
  have h4 : (((((x.setCell ⟨w.heap.size, 0, none⟩ v0).setCell ⟨w.heap.size, 1, none⟩ v1).setCell ⟨w.heap.size, 2, none⟩ v2).setCell ⟨w.heap.size, 3, none⟩ v3).setCell ⟨w.heap.size, 4, none⟩ v4).heap[w.heap.size]? = some (.cells #[v0, v1, v2, v3, v4, a5, a6, a7, a8] T (0, 0)) := (Lib.heap_setCell_same (i := 4) h3 v4).trans rfl
  have h5 : ((((((x.setCell ⟨w.heap.size, 0, none⟩ v0).setCell ⟨w.heap.size, 1, none⟩ v1).setCell ⟨w.heap.size, 2, none⟩ v2).setCell ⟨w.heap.size, 3, none⟩ v3).setCell ⟨w.heap.size, 4, none⟩ v4).setCell ⟨w.heap.size, 5, none⟩ v5).heap[w.heap.size]? = some (.cells #[v0, v1, v2, v3, v4, v5, a6, a7, a8] T (0, 0)) := (Lib.heap_setCell_same (i := 5) h4 v5).trans rfl
  have h6 : (((((((x.setCell ⟨w.heap.size, 0, none⟩ v0).setCell ⟨w.heap.size, 1, none⟩ v1).setCell ⟨w.heap.size, 2, none⟩ v2).setCell ⟨w.heap.size, 3, none⟩ v3).setCell ⟨w.heap.size, 4, none⟩ v4).setCell ⟨w.heap.size, 5, none⟩ v5).setCell ⟨w.heap.size, 6, none⟩ v6).heap[w.heap.size]? = some (.cells #[v0, v1, v2, v3, v4, v5, v6, a7, a8] T (0, 0)) := (Lib.heap_setCell_same (i := 6) h5 v6).trans rfl
  have h7 : ((((((((x.setCell ⟨w.heap.size, 0, none⟩ v0).setCell ⟨w.heap.size, 1, none⟩ v1).setCell ⟨w.heap.size, 2, none⟩ v2).setCell ⟨w.heap.size, 3, none⟩ v3).setCell ⟨w.heap.size, 4, none⟩ v4).setCell ⟨w.heap.size, 5, none⟩ v5).setCell ⟨w.heap.size, 6, none⟩ v6).setCell ⟨w.heap.size, 7, none⟩ v7).heap[w.heap.size]? = some (.cells #[v0, v1, v2, v3, v4, v5, v6, v7, a8] T (0, 0)) := (Lib.heap_setCell_same (i := 7) h6 v7).trans rfl
  have h8 : (((((((((x.setCell ⟨w.heap.size, 0, none⟩ v0).setCell ⟨w.heap.size, 1, none⟩ v1).setCell ⟨w.heap.size, 2, none⟩ v2).setCell ⟨w.heap.size, 3, none⟩ v3).setCell ⟨w.heap.size, 4, none⟩ v4).setCell ⟨w.heap.size, 5, none⟩ v5).setCell ⟨w.heap.size, 6, none⟩ v6).setCell ⟨w.heap.size, 7, none⟩ v7).setCell ⟨w.heap.size, 8, none⟩ v8).heap[w.heap.size]? = some (.cells #[v0, v1, v2, v3, v4, v5, v6, v7, v8] T (0, 0)) := (Lib.heap_setCell_same (i := 8) h7 v8).trans rfl
  exact ⟨h8, (((((((((h.2.setCell (p := ⟨w.heap.size, 0, none⟩) (Nat.le_refl _) v0).setCell (p := ⟨w.heap.size, 1, none⟩) (Nat.le_refl _) v1).setCell (p := ⟨w.heap.size, 2, none⟩) (Nat.le_refl _) v2).setCell (p := ⟨w.heap.size, 3, none⟩) (Nat.le_refl _) v3).setCell (p := ⟨w.heap.size, 4, none⟩) (Nat.le_refl _) v4).setCell (p := ⟨w.heap.size, 5, none⟩) (Nat.le_refl _) v5).setCell (p := ⟨w.heap.size, 6, none⟩) (Nat.le_refl _) v6).setCell (p := ⟨w.heap.size, 7, none⟩) (Nat.le_refl _) v7).setCell (p := ⟨w.heap.size, 8, none⟩) (Nat.le_refl _) v8)⟩
set_option maxHeartbeats 8000000 in
set_option maxRecDepth 100000 in
theorem hf_few (b : Bool) (s : ByteArray) (hs : s.size < 8) (w : World) :
    Calls Tryz.prog 29 #[.int .i64 (kOf b), .string s] w fun e w' => e = .returned (.agg #[.slice none 0 0, .int .i64 0, .int .i64 0, .bool false, .bool false, .int .i64 0, .int .i64 0, .int .i64 0, .int .i64 1]) ∧ Below w.heap.size w w' := by
  have HN := Lib.hid (fun W => numS s hs W)
  have HD := Lib.hid (show D1 w #[.slice none 0 0, .int .i64 0, .int .i64 0, .bool false, .bool false, .int .i64 0, .int .i64 0, .int .i64 0, .int .i64 0] 60 (w.alloc (.cells #[.slice none 0 0, .int .i64 0, .int .i64 0, .bool false, .bool false, .int .i64 0, .int .i64 0, .int .i64 0, .int .i64 0] 60)) from ⟨heap_alloc_new w _, below_alloc (Below.refl w.heap.size w) _⟩)
  clear hs
  go_enter Tryz.func29, Tryz.ntmps29
  go_wp2_with (go_at_call 57; go_loud ((with_reducible refine (HN.out _).mono ?_); rintro e_ w1 ⟨rfl, hb⟩; have HD1 := Lib.hid (D1.step HD.out hb); obtain ⟨⟨k0, k1, k2, k3, k4, k5, k6, k7, k8⟩, ⟨g0, g1, g2, g3, g4, g5, g6, g7, g8⟩⟩ := HD1.out.cells9; clear hb))
  have HF := Lib.hid (HD1.out.set9 (.slice none 0 0) (.int .i64 0) (.int .i64 0) (.bool false) (.bool false) (.int .i64 0) (.int .i64 0) (.int .i64 0) (.int .i64 1))
  clear k0 k1 k2 k3 k4 k5 k6 k7 k8 g0 g1 g2 g3 g4 g5 g6 g7 g8
  generalize (((((((((w1.setCell ⟨w.heap.size, 0, none⟩ (.slice none 0 0)).setCell ⟨w.heap.size, 1, none⟩ (.int .i64 0)).setCell ⟨w.heap.size, 2, none⟩ (.int .i64 0)).setCell ⟨w.heap.size, 3, none⟩ (.bool false)).setCell ⟨w.heap.size, 4, none⟩ (.bool false)).setCell ⟨w.heap.size, 5, none⟩ (.int .i64 0)).setCell ⟨w.heap.size, 6, none⟩ (.int .i64 0)).setCell ⟨w.heap.size, 7, none⟩ (.int .i64 0)).setCell ⟨w.heap.size, 8, none⟩ (.int .i64 1)) = X at HF ⊢
  obtain ⟨⟨c0, c1, c2, c3, c4, c5, c6, c7, c8⟩, _⟩ := HF.out.cells9
  exact bodyPost_ret (v := .agg #[.slice none 0 0, .int .i64 0, .int .i64 0, .bool false, .bool false, .int .i64 0, .int .i64 0, .int .i64 0, .int .i64 1]) (by simp [results, Tryz.results29, go_sem, c0, c1, c2, c3, c4, c5, c6, c7, c8]; try rfl) rfl ⟨rfl, HF.out.2⟩
set_option maxHeartbeats 8000000 in
set_option maxRecDepth 100000 in
theorem hf_win (b : Bool) (s : ByteArray) (hs : 8 ≤ s.size) (d : Int) (hd : d ≠ 0) (hw : ∀ W, Calls Tryz.prog 28 #[.int .i64 (kOf b), .string (s.extract 8 s.size)] W fun e w' => ∃ (v : Value) (z : Int), e = .returned (.tuple #[v, .int .i64 z, .int .i64 d]) ∧ Below W.heap.size W w') (w : World) :
    Calls Tryz.prog 29 #[.int .i64 (kOf b), .string s] w fun e w' => e = .returned (.agg #[.slice none 0 0, .int .i64 0, .int .i64 0, .bool false, .bool false, .int .i64 0, .int .i64 0, .int .i64 0, .int .i64 d]) ∧ Below w.heap.size w w' := by
  have HN := Lib.hid (fun W => numR s hs W)
  have q8 : (8 : Int) ≤ (s.size : Int) := by omega
  have HW := Lib.hid hw
  have hd2 : (d == 0) = false := beq_eq_false_iff_ne.2 hd
  have hd3 : (d != 0) = true := bne_iff_ne.2 hd
  have HD := Lib.hid (show D1 w #[.slice none 0 0, .int .i64 0, .int .i64 0, .bool false, .bool false, .int .i64 0, .int .i64 0, .int .i64 0, .int .i64 0] 60 (w.alloc (.cells #[.slice none 0 0, .int .i64 0, .int .i64 0, .bool false, .bool false, .int .i64 0, .int .i64 0, .int .i64 0, .int .i64 0] 60)) from ⟨heap_alloc_new w _, below_alloc (Below.refl w.heap.size w) _⟩)
  clear hs hw
  go_enter Tryz.func29, Tryz.ntmps29
  go_wp2_with (first
    | (go_at_call 57; go_loud ((with_reducible refine (HN.out _).mono ?_); rintro e_ w1 ⟨rfl, hb⟩; have HD1 := Lib.hid (D1.step HD.out hb); skip; clear hb))
    | (go_at_call 28; go_loud ((with_reducible refine (HW.out _).mono ?_); rintro e_ w2 ⟨v, z, rfl, hb⟩; have HD2 := Lib.hid (D1.step HD1.out hb); obtain ⟨⟨k0, k1, k2, k3, k4, k5, k6, k7, k8⟩, ⟨g0, g1, g2, g3, g4, g5, g6, g7, g8⟩⟩ := HD2.out.cells9; clear hb)))
  have HF := Lib.hid (HD2.out.set9 (.slice none 0 0) (.int .i64 0) (.int .i64 0) (.bool false) (.bool false) (.int .i64 0) (.int .i64 0) (.int .i64 0) (.int .i64 d))
  clear k0 k1 k2 k3 k4 k5 k6 k7 k8 g0 g1 g2 g3 g4 g5 g6 g7 g8
  generalize (((((((((w2.setCell ⟨w.heap.size, 0, none⟩ (.slice none 0 0)).setCell ⟨w.heap.size, 1, none⟩ (.int .i64 0)).setCell ⟨w.heap.size, 2, none⟩ (.int .i64 0)).setCell ⟨w.heap.size, 3, none⟩ (.bool false)).setCell ⟨w.heap.size, 4, none⟩ (.bool false)).setCell ⟨w.heap.size, 5, none⟩ (.int .i64 0)).setCell ⟨w.heap.size, 6, none⟩ (.int .i64 0)).setCell ⟨w.heap.size, 7, none⟩ (.int .i64 0)).setCell ⟨w.heap.size, 8, none⟩ (.int .i64 d)) = X at HF ⊢
  obtain ⟨⟨c0, c1, c2, c3, c4, c5, c6, c7, c8⟩, _⟩ := HF.out.cells9
  exact bodyPost_ret (v := .agg #[.slice none 0 0, .int .i64 0, .int .i64 0, .bool false, .bool false, .int .i64 0, .int .i64 0, .int .i64 0, .int .i64 d]) (by simp [results, Tryz.results29, go_sem, c0, c1, c2, c3, c4, c5, c6, c7, c8]; try rfl) rfl ⟨rfl, HF.out.2⟩
set_option maxHeartbeats 8000000 in
set_option maxRecDepth 100000 in
theorem hf_pane (b : Bool) (s : ByteArray) (hs : 8 ≤ s.size) (ys : List S23) (z : Nat) (hz : 8 + z ≤ s.size) (hs4 : s.size ≤ 400) (hw : ∀ W, Calls Tryz.prog 28 #[.int .i64 (kOf b), .string (s.extract 8 s.size)] W fun e w' => ∃ (v : Value), e = .returned (.tuple #[v, .int .i64 (z : Nat), .int .i64 0]) ∧ Kd.R PFnWindowsRead.k32 32 w' W.heap.size (fun _ => True) v (ys.map to32) ∧ Below W.heap.size W w') (d : Int) (hd : d ≠ 0) (hp : ∀ W, Calls Tryz.prog 59 #[.string (s.extract (8 + z) s.size)] W fun e w' => e = .returned (.tuple #[.agg #[(.int .i64 0), (.bool false), (.bool false), (.int .i64 0), (.int .i64 0)], .int .i64 0, .int .i64 d]) ∧ Below W.heap.size W w') (w : World) :
    Calls Tryz.prog 29 #[.int .i64 (kOf b), .string s] w fun e w' => e = .returned (.agg #[.slice none 0 0, .int .i64 0, .int .i64 0, .bool false, .bool false, .int .i64 0, .int .i64 0, .int .i64 0, .int .i64 d]) ∧ Below w.heap.size w w' := by
  have HN := Lib.hid (fun W => numR s hs W)
  have q8 : (8 : Int) ≤ (s.size : Int) := by omega
  have HW := Lib.hid hw
  have hd2 : (d == 0) = false := beq_eq_false_iff_ne.2 hd
  have hd3 : (d != 0) = true := bne_iff_ne.2 hd
  obtain ⟨p, hp8⟩ : ∃ p, p = 8 + z := ⟨_, rfl⟩
  have qz1 : wrap64 (8 + (z : Int)) = (p : Int) := by rw [hp8]; unfold wrap64; omega
  have qz2 : IntKind.i64.wrap (8 + (z : Int)) = (p : Int) := (IntWalk.i64_left _).trans qz1
  have qz3 : (p : Int) ≤ (s.size : Int) := by omega
  have qz5 : p ≤ s.size := by omega
  have qz4 : (0 : Int) ≤ (p : Int) := by omega
  rw [← hp8] at hp
  have HP := Lib.hid hp
  have HD := Lib.hid (show D1 w #[.slice none 0 0, .int .i64 0, .int .i64 0, .bool false, .bool false, .int .i64 0, .int .i64 0, .int .i64 0, .int .i64 0] 60 (w.alloc (.cells #[.slice none 0 0, .int .i64 0, .int .i64 0, .bool false, .bool false, .int .i64 0, .int .i64 0, .int .i64 0, .int .i64 0] 60)) from ⟨heap_alloc_new w _, below_alloc (Below.refl w.heap.size w) _⟩)
  clear hs hw hz hs4 hp hp8
  go_enter Tryz.func29, Tryz.ntmps29
  go_wp2_with (first
    | (go_at_call 57; go_loud ((with_reducible refine (HN.out _).mono ?_); rintro e_ w1 ⟨rfl, hb⟩; have HD1 := Lib.hid (D1.step HD.out hb); skip; clear hb))
    | (go_at_call 28; go_loud ((with_reducible refine (HW.out _).mono ?_); rintro e_ w2 ⟨v, rfl, hR, hb⟩; obtain ⟨sA, sc, e2⟩ := Kd.R_slice hR; subst e2; (try rw [List.length_map]); have HR2 := Lib.hid hR; have HD2 := Lib.hid (D1.step HD1.out hb); clear hb hR))
    | (go_at_call 59; go_loud ((with_reducible refine (HP.out _).mono ?_); rintro e_ w3 ⟨rfl, hb⟩; have HR3 := Lib.hid (Kd.R_below HR2.out hb); have HD3 := Lib.hid (D1.step HD2.out hb); have HD4 := Lib.hid (D1.step HD3.out (show Below w3.heap.size w3 (w3.alloc (.cells #[(.int .i64 0), (.bool false), (.bool false), (.int .i64 0), (.int .i64 0)] 50)) from below_alloc (Below.refl _ _) _)); obtain ⟨⟨k0, k1, k2, k3, k4, k5, k6, k7, k8⟩, ⟨g0, g1, g2, g3, g4, g5, g6, g7, g8⟩⟩ := HD4.out.cells9; clear hb)))
  generalize (w3.alloc (.cells #[(.int .i64 0), (.bool false), (.bool false), (.int .i64 0), (.int .i64 0)] 50)) = W4 at *
  have HF := Lib.hid (HD4.out.set9 (.slice none 0 0) (.int .i64 0) (.int .i64 0) (.bool false) (.bool false) (.int .i64 0) (.int .i64 0) (.int .i64 0) (.int .i64 d))
  clear k0 k1 k2 k3 k4 k5 k6 k7 k8 g0 g1 g2 g3 g4 g5 g6 g7 g8
  generalize (((((((((W4.setCell ⟨w.heap.size, 0, none⟩ (.slice none 0 0)).setCell ⟨w.heap.size, 1, none⟩ (.int .i64 0)).setCell ⟨w.heap.size, 2, none⟩ (.int .i64 0)).setCell ⟨w.heap.size, 3, none⟩ (.bool false)).setCell ⟨w.heap.size, 4, none⟩ (.bool false)).setCell ⟨w.heap.size, 5, none⟩ (.int .i64 0)).setCell ⟨w.heap.size, 6, none⟩ (.int .i64 0)).setCell ⟨w.heap.size, 7, none⟩ (.int .i64 0)).setCell ⟨w.heap.size, 8, none⟩ (.int .i64 d)) = X at HF ⊢
  obtain ⟨⟨c0, c1, c2, c3, c4, c5, c6, c7, c8⟩, _⟩ := HF.out.cells9
  exact bodyPost_ret (v := .agg #[.slice none 0 0, .int .i64 0, .int .i64 0, .bool false, .bool false, .int .i64 0, .int .i64 0, .int .i64 0, .int .i64 d]) (by simp [results, Tryz.results29, go_sem, c0, c1, c2, c3, c4, c5, c6, c7, c8]; try rfl) rfl ⟨rfl, HF.out.2⟩
set_option maxHeartbeats 8000000 in
set_option maxRecDepth 100000 in
theorem hf_right (b : Bool) (s : ByteArray) (hs : 8 ≤ s.size) (T : Int) (hT : tmOf s.data.toList = T) (ys : List S23) (z : Nat) (hz : 8 + z ≤ s.size) (hs4 : s.size ≤ 400) (hw : ∀ W, Calls Tryz.prog 28 #[.int .i64 (kOf b), .string (s.extract 8 s.size)] W fun e w' => ∃ (v : Value), e = .returned (.tuple #[v, .int .i64 (z : Nat), .int .i64 0]) ∧ Kd.R PFnWindowsRead.k32 32 w' W.heap.size (fun _ => True) v (ys.map to32) ∧ Below W.heap.size W w') (t : Nat) (f la : Bool) (ix m : Int) (kk u : Nat) (hk : 8 + z + kk = u) (hkl : u ≤ 400) (hp : ∀ W, Calls Tryz.prog 59 #[.string (s.extract (8 + z) s.size)] W fun e w' => e = .returned (.tuple #[.agg #[(.int .i64 (t : Nat)), (.bool f), (.bool la), (.int .i64 ix), (.int .i64 m)], .int .i64 (kk : Nat), .int .i64 0]) ∧ Below W.heap.size W w') (w : World) :
    Calls Tryz.prog 29 #[.int .i64 (kOf b), .string s] w fun e w' => ∃ (A : Option Addr) (c : Nat), e = .returned (.agg #[.slice A ys.length c, .int .i64 T, .int .i64 (t : Nat), .bool f, .bool la, .int .i64 ix, .int .i64 m, .int .i64 (u : Nat), .int .i64 0]) ∧ Kd.C k32 w' A ys.length (ys.map toS) ∧ Below w.heap.size w w' := by
  have HN := Lib.hid (fun W => numR s hs W)
  have q8 : (8 : Int) ≤ (s.size : Int) := by omega
  have HW := Lib.hid hw
  obtain ⟨p, hp8⟩ : ∃ p, p = 8 + z := ⟨_, rfl⟩
  have qz1 : wrap64 (8 + (z : Int)) = (p : Int) := by rw [hp8]; unfold wrap64; omega
  have qz2 : IntKind.i64.wrap (8 + (z : Int)) = (p : Int) := (IntWalk.i64_left _).trans qz1
  have qz3 : (p : Int) ≤ (s.size : Int) := by omega
  have qz5 : p ≤ s.size := by omega
  have qz4 : (0 : Int) ≤ (p : Int) := by omega
  rw [← hp8] at hp
  have HP := Lib.hid hp
  have qu1 : wrap64 ((p : Int) + (kk : Int)) = (u : Int) := by unfold wrap64; omega
  have qu2 : IntKind.i64.wrap ((p : Int) + (kk : Int)) = (u : Int) := (IntWalk.i64_left _).trans qu1
  obtain ⟨V, hV, hW⟩ := xor_time (Lib.beNat (s.data.toList.take 8)) (beNat_lt8 _ (by rw [List.length_take]; omega))
  have qT1 : wrap64 (V : Int) = T := hW.trans hT
  have qT2 : IntKind.i64.wrap (V : Int) = T := (IntWalk.i64_left _).trans qT1
  obtain ⟨nn, hnn⟩ : ∃ nn, nn = Lib.beNat (s.data.toList.take 8) := ⟨_, rfl⟩
  rw [← hnn] at hV HN
  have HD := Lib.hid (show D1 w #[.slice none 0 0, .int .i64 0, .int .i64 0, .bool false, .bool false, .int .i64 0, .int .i64 0, .int .i64 0, .int .i64 0] 60 (w.alloc (.cells #[.slice none 0 0, .int .i64 0, .int .i64 0, .bool false, .bool false, .int .i64 0, .int .i64 0, .int .i64 0, .int .i64 0] 60)) from ⟨heap_alloc_new w _, below_alloc (Below.refl w.heap.size w) _⟩)
  clear hs hw hz hs4 hp hp8 hT hk hkl hW hnn
  go_enter Tryz.func29, Tryz.ntmps29
  go_wp2_with (first
    | (go_at_call 57; go_loud ((with_reducible refine (HN.out _).mono ?_); rintro e_ w1 ⟨rfl, hb⟩; have HD1 := Lib.hid (D1.step HD.out hb); skip; clear hb))
    | (go_at_call 28; go_loud ((with_reducible refine (HW.out _).mono ?_); rintro e_ w2 ⟨v, rfl, hR, hb⟩; obtain ⟨sA, sc, e2⟩ := Kd.R_slice hR; subst e2; (try rw [List.length_map]); have HR2 := Lib.hid hR; have HD2 := Lib.hid (D1.step HD1.out hb); clear hb hR))
    | (go_at_call 59; go_loud ((with_reducible refine (HP.out _).mono ?_); rintro e_ w3 ⟨rfl, hb⟩; have HR3 := Lib.hid (Kd.R_below HR2.out hb); have HD3 := Lib.hid (D1.step HD2.out hb); have HD4 := Lib.hid (D1.step HD3.out (show Below w3.heap.size w3 (w3.alloc (.cells #[(.int .i64 (t : Nat)), (.bool f), (.bool la), (.int .i64 ix), (.int .i64 m)] 50)) from below_alloc (Below.refl _ _) _)); obtain ⟨⟨k0, k1, k2, k3, k4, k5, k6, k7, k8⟩, ⟨g0, g1, g2, g3, g4, g5, g6, g7, g8⟩⟩ := HD4.out.cells9; have HX4 := Lib.hid (heap_alloc_new w3 (.cells #[(.int .i64 (t : Nat)), (.bool f), (.bool la), (.int .i64 ix), (.int .i64 m)] 50)); obtain ⟨p0, p1, p2, p3, p4⟩ := laid5 HX4.out; have hne : w3.heap.size ≠ w.heap.size := (by have := blk_lt HD3.out.1; omega); have HR4 := Lib.hid (Kd.R_alloc HR3.out (.cells #[(.int .i64 (t : Nat)), (.bool f), (.bool la), (.int .i64 ix), (.int .i64 m)] 50)); have hlt2 : w.heap.size < w1.heap.size := blk_lt HD1.out.1; have HL2 := Lib.hid hlt2; clear hb hlt2)))
  generalize (w3.alloc (.cells #[(.int .i64 (t : Nat)), (.bool f), (.bool la), (.int .i64 ix), (.int .i64 m)] 50)) = W4 at *
  have HF := Lib.hid (HD4.out.set9 (.slice sA ys.length sc) (.int .i64 T) (.int .i64 (t : Nat)) (.bool f) (.bool la) (.int .i64 ix) (.int .i64 m) (.int .i64 (u : Nat)) (.int .i64 0))
  have HRX := Lib.hid (show Kd.C k32 (((((((((W4.setCell ⟨w.heap.size, 0, none⟩ (.slice sA ys.length sc)).setCell ⟨w.heap.size, 1, none⟩ (.int .i64 T)).setCell ⟨w.heap.size, 2, none⟩ (.int .i64 (t : Nat))).setCell ⟨w.heap.size, 3, none⟩ (.bool f)).setCell ⟨w.heap.size, 4, none⟩ (.bool la)).setCell ⟨w.heap.size, 5, none⟩ (.int .i64 ix)).setCell ⟨w.heap.size, 6, none⟩ (.int .i64 m)).setCell ⟨w.heap.size, 7, none⟩ (.int .i64 (u : Nat))).setCell ⟨w.heap.size, 8, none⟩ (.int .i64 0)) sA ys.length (ys.map toS) from C32_to (by have := (Kd.R_reads' (R_set9 (x := W4) (b := w.heap.size) HR4.out HL2.out (.slice sA ys.length sc) (.int .i64 T) (.int .i64 (t : Nat)) (.bool f) (.bool la) (.int .i64 ix) (.int .i64 m) (.int .i64 (u : Nat)) (.int .i64 0))).2.2; rwa [List.length_map] at this))
  clear p0 p1 p2 p3 p4
  clear k0 k1 k2 k3 k4 k5 k6 k7 k8 g0 g1 g2 g3 g4 g5 g6 g7 g8
  generalize (((((((((W4.setCell ⟨w.heap.size, 0, none⟩ (.slice sA ys.length sc)).setCell ⟨w.heap.size, 1, none⟩ (.int .i64 T)).setCell ⟨w.heap.size, 2, none⟩ (.int .i64 (t : Nat))).setCell ⟨w.heap.size, 3, none⟩ (.bool f)).setCell ⟨w.heap.size, 4, none⟩ (.bool la)).setCell ⟨w.heap.size, 5, none⟩ (.int .i64 ix)).setCell ⟨w.heap.size, 6, none⟩ (.int .i64 m)).setCell ⟨w.heap.size, 7, none⟩ (.int .i64 (u : Nat))).setCell ⟨w.heap.size, 8, none⟩ (.int .i64 0)) = X at HF HRX ⊢
  obtain ⟨⟨c0, c1, c2, c3, c4, c5, c6, c7, c8⟩, _⟩ := HF.out.cells9
  exact bodyPost_ret (v := .agg #[.slice sA ys.length sc, .int .i64 T, .int .i64 (t : Nat), .bool f, .bool la, .int .i64 ix, .int .i64 m, .int .i64 (u : Nat), .int .i64 0]) (by simp [results, Tryz.results29, go_sem, c0, c1, c2, c3, c4, c5, c6, c7, c8]; try rfl) rfl ⟨sA, sc, rfl, HRX.out, HF.out.2⟩
end Go.Proofs.YtgdbeiadlgkedaaGreatDoor
