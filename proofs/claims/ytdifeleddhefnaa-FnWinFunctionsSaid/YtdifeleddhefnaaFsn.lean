/- The text of a window's function: the contract of (*window.Fn).String. -/
import Derived.Test.YtdifeleddhefnaaFst
import Derived.Test.YtdifeleddhefnaaAsg
import Derived.Deep.RegionHeld3
set_option linter.unusedVariables false
set_option linter.unusedSimpArgs false
namespace Go.Proofs.Ytdifeleddhefnaa
open Go.RowKit Go.Proofs.YtdifeleddhefnaaW.PrintWords

/-- A duration's text. -/
def dstr (n : Int) : ByteArray := bstr (dtxt n.toNat)
theorem dtxt_len (ms : Nat) (h : ms ≤ 1000000000) : (dtxt ms).length ≤ 40 := by
  unfold dtxt
  split
  · simp
  · split
    · have := dg_le3 (n := ms) (by omega); simp; omega
    · have h1 := fracT_len (ms * 1000000)
      have h2 := dg_le2 (n := ms / 1000 % 60) (by omega)
      have h3 := dg_le2 (n := ms / 1000 / 60 % 60) (by omega)
      have h4 := dg_le7 (n := ms / 1000 / 60 / 60) (by omega)
      simp only []
      split
      · simp; omega
      · split
        · simp; omega
        · simp; omega
theorem dstr_size (n : Int) (h0 : 0 ≤ n) (h : n ≤ 1000000000) : (dstr n).size ≤ 40 := by
  unfold dstr
  show (strOfNums _).size ≤ 40
  rw [strOfNums_size]; exact dtxt_len _ (by omega)
/-- What the function's text is. -/
def ftxt (f : WF) : ByteArray :=
  if f.k = 1 then ⟨#[70, 73, 88, 91]⟩ ++ dstr f.sz ++ ⟨#[93]⟩
  else if f.k = 2 then ⟨#[83, 76, 73, 91]⟩ ++ dstr f.sz ++ ⟨#[64]⟩ ++ dstr f.pd ++ ⟨#[93]⟩
  else if f.k = 3 then ⟨#[83, 69, 83, 91]⟩ ++ dstr f.gp ++ ⟨#[93]⟩
  else ⟨#[71, 76, 79]⟩
theorem app1 : (⟨#[70, 73, 88]⟩ : ByteArray) ++ ⟨#[91]⟩ = ⟨#[70, 73, 88, 91]⟩ := by kernel_rfl
theorem app2 : (⟨#[83, 76, 73]⟩ : ByteArray) ++ ⟨#[91]⟩ = ⟨#[83, 76, 73, 91]⟩ := by kernel_rfl
theorem app3 : (⟨#[83, 69, 83]⟩ : ByteArray) ++ ⟨#[91]⟩ = ⟨#[83, 69, 83, 91]⟩ := by kernel_rfl
set_option maxRecDepth 100000 in
set_option maxHeartbeats 4000000 in
theorem fnString_1 (g : Nat) (n : Int) (h0 : 0 ≤ n) (h1 : n ≤ 1000000000) (w : World) (hp : w.heap[g]? = some (.cells #[.string ⟨#[70, 73, 88]⟩, .int .i64 (n * 1000000), .int .i64 0, .int .i64 0] 111 (0, 0))) :
    Calls Try.prog 70 #[.pointer (some ⟨g, 0, none⟩)] w fun e w' => e = .returned (.string (⟨#[70, 73, 88, 91]⟩ ++ dstr n ++ ⟨#[93]⟩)) ∧ Below w.heap.size w w' := by
  have HS := Aside0.mk (dstr_size n h0 h1)
  have HD := Aside0.mk (fun W => durString_any n.toNat (by omega) (n * 1000000) (by omega) W)
  have c0 := (blk_cell hp 0).trans (rfl : _ = some (Value.string ⟨#[70, 73, 88]⟩))
  have K0 : w.drew.cell? ⟨g, 0, none⟩ = some (.string ⟨#[70, 73, 88]⟩) ∧ w.drew.cell? ⟨g, 1, none⟩ = some (.int .i64 (n * 1000000)) := ⟨(blk_cell hp 0).trans rfl, (blk_cell hp 1).trans rfl⟩
  obtain ⟨z, hz⟩ : ∃ z, z = n * 1000000 := ⟨_, rfl⟩
  rw [← hz] at HD K0
  obtain ⟨D, hD⟩ : ∃ D, dstr n = D := ⟨_, rfl⟩
  have HD := Aside0.mk (show ∀ W, Calls Try.prog 83 #[.int .i64 z] W fun e w' => e = .returned (.string D) ∧ Below W.heap.size W w' by rw [← hD]; exact HD.out)
  rw [hD] at HS ⊢
  have s0 : D.size ≤ 40 := HS.out
  have g1 : ¬ 9223372036854775807 < 4 + D.size := by omega
  have g2 : ¬ 9223372036854775807 < 4 + D.size + 1 := by omega
  clear hp hz hD h0 h1
  go_enter Try.func70, Try.ntmps70
  go_wp2_with fail
  go_region_held3 (fun x => x.cell? ⟨g, 0, none⟩ = some (.string ⟨#[70, 73, 88]⟩) ∧ x.cell? ⟨g, 1, none⟩ = some (.int .i64 z)) (first | exact K | exact K0 | assumption)
    ((go_at_call 83; refine (HD.out _).mono ?_; rintro e_ w1 ⟨rfl, hb⟩; have K : w1.cell? ⟨g, 0, none⟩ = some (.string ⟨#[70, 73, 88]⟩) ∧ w1.cell? ⟨g, 1, none⟩ = some (.int .i64 z) := ⟨(hb.cell (World.block_lt_of_cell? _ _ K0.1)).trans K0.1, (hb.cell (World.block_lt_of_cell? _ _ K0.2)).trans K0.2⟩; have HB := Aside0.mk (below_then (below_drew (Below.refl w.heap.size w)) (below_drew (Below.refl w.heap.size w)).size hb); clear hb))
  go_wp2
  go_ret
  exact ⟨by rw [app1]; rfl, HB.out⟩
set_option maxRecDepth 100000 in
set_option maxHeartbeats 4000000 in
theorem fnString_3 (g : Nat) (n : Int) (h0 : 0 ≤ n) (h1 : n ≤ 1000000000) (w : World) (hp : w.heap[g]? = some (.cells #[.string ⟨#[83, 69, 83]⟩, .int .i64 0, .int .i64 0, .int .i64 (n * 1000000)] 111 (0, 0))) :
    Calls Try.prog 70 #[.pointer (some ⟨g, 0, none⟩)] w fun e w' => e = .returned (.string (⟨#[83, 69, 83, 91]⟩ ++ dstr n ++ ⟨#[93]⟩)) ∧ Below w.heap.size w w' := by
  have HS := Aside0.mk (dstr_size n h0 h1)
  have HD := Aside0.mk (fun W => durString_any n.toNat (by omega) (n * 1000000) (by omega) W)
  have c0 := (blk_cell hp 0).trans (rfl : _ = some (Value.string ⟨#[83, 69, 83]⟩))
  have K0 : w.drew.cell? ⟨g, 0, none⟩ = some (.string ⟨#[83, 69, 83]⟩) ∧ w.drew.cell? ⟨g, 3, none⟩ = some (.int .i64 (n * 1000000)) := ⟨(blk_cell hp 0).trans rfl, (blk_cell hp 3).trans rfl⟩
  obtain ⟨z, hz⟩ : ∃ z, z = n * 1000000 := ⟨_, rfl⟩
  rw [← hz] at HD K0
  obtain ⟨D, hD⟩ : ∃ D, dstr n = D := ⟨_, rfl⟩
  have HD := Aside0.mk (show ∀ W, Calls Try.prog 83 #[.int .i64 z] W fun e w' => e = .returned (.string D) ∧ Below W.heap.size W w' by rw [← hD]; exact HD.out)
  rw [hD] at HS ⊢
  have s0 : D.size ≤ 40 := HS.out
  have g1 : ¬ 9223372036854775807 < 4 + D.size := by omega
  have g2 : ¬ 9223372036854775807 < 4 + D.size + 1 := by omega
  clear hp hz hD h0 h1
  go_enter Try.func70, Try.ntmps70
  go_wp2_with fail
  go_region_held3 (fun x => x.cell? ⟨g, 0, none⟩ = some (.string ⟨#[83, 69, 83]⟩) ∧ x.cell? ⟨g, 3, none⟩ = some (.int .i64 z)) (first | exact K | exact K0 | assumption)
    ((go_at_call 83; refine (HD.out _).mono ?_; rintro e_ w1 ⟨rfl, hb⟩; have K : w1.cell? ⟨g, 0, none⟩ = some (.string ⟨#[83, 69, 83]⟩) ∧ w1.cell? ⟨g, 3, none⟩ = some (.int .i64 z) := ⟨(hb.cell (World.block_lt_of_cell? _ _ K0.1)).trans K0.1, (hb.cell (World.block_lt_of_cell? _ _ K0.2)).trans K0.2⟩; have HB := Aside0.mk (below_then (below_drew (Below.refl w.heap.size w)) (below_drew (Below.refl w.heap.size w)).size hb); clear hb))
  go_wp2
  go_ret
  exact ⟨by rw [app3]; rfl, HB.out⟩
set_option maxRecDepth 100000 in
set_option maxHeartbeats 4000000 in
theorem fnString_2 (g : Nat) (n p : Int) (h0 : 0 ≤ n) (h1 : n ≤ 1000000000) (h2 : 0 ≤ p) (h3 : p ≤ 1000000000) (w : World) (hp : w.heap[g]? = some (.cells #[.string ⟨#[83, 76, 73]⟩, .int .i64 (n * 1000000), .int .i64 (p * 1000000), .int .i64 0] 111 (0, 0))) :
    Calls Try.prog 70 #[.pointer (some ⟨g, 0, none⟩)] w fun e w' => e = .returned (.string (⟨#[83, 76, 73, 91]⟩ ++ dstr n ++ ⟨#[64]⟩ ++ dstr p ++ ⟨#[93]⟩)) ∧ Below w.heap.size w w' := by
  have HS := Aside0.mk (dstr_size n h0 h1)
  have HS2 := Aside0.mk (dstr_size p h2 h3)
  have HD := Aside0.mk (fun W => durString_any n.toNat (by omega) (n * 1000000) (by omega) W)
  have HD2 := Aside0.mk (fun W => durString_any p.toNat (by omega) (p * 1000000) (by omega) W)
  have c0 := (blk_cell hp 0).trans (rfl : _ = some (Value.string ⟨#[83, 76, 73]⟩))
  have K0 : w.drew.cell? ⟨g, 0, none⟩ = some (.string ⟨#[83, 76, 73]⟩) ∧ w.drew.cell? ⟨g, 1, none⟩ = some (.int .i64 (n * 1000000)) ∧ w.drew.cell? ⟨g, 2, none⟩ = some (.int .i64 (p * 1000000)) := ⟨(blk_cell hp 0).trans rfl, (blk_cell hp 1).trans rfl, (blk_cell hp 2).trans rfl⟩
  obtain ⟨z, hz⟩ : ∃ z, z = n * 1000000 := ⟨_, rfl⟩
  obtain ⟨y, hy⟩ : ∃ y, y = p * 1000000 := ⟨_, rfl⟩
  rw [← hz] at HD K0
  rw [← hy] at HD2 K0
  obtain ⟨D, hD⟩ : ∃ D, dstr n = D := ⟨_, rfl⟩
  obtain ⟨G, hG⟩ : ∃ G, dstr p = G := ⟨_, rfl⟩
  have HD := Aside0.mk (show ∀ W, Calls Try.prog 83 #[.int .i64 z] W fun e w' => e = .returned (.string D) ∧ Below W.heap.size W w' by rw [← hD]; exact HD.out)
  have HD2 := Aside0.mk (show ∀ W, Calls Try.prog 83 #[.int .i64 y] W fun e w' => e = .returned (.string G) ∧ Below W.heap.size W w' by rw [← hG]; exact HD2.out)
  rw [hD] at HS ⊢
  rw [hG] at HS2 ⊢
  have s0 : D.size ≤ 40 := HS.out
  have s1 : G.size ≤ 40 := HS2.out
  have g1 : ¬ 9223372036854775807 < 4 + D.size := by omega
  have g2 : ¬ 9223372036854775807 < 4 + D.size + 1 := by omega
  have g3 : ¬ 9223372036854775807 < 4 + D.size + 1 + G.size := by omega
  have g4 : ¬ 9223372036854775807 < 4 + D.size + 1 + G.size + 1 := by omega
  clear hp hz hD h0 h1 hy hG h2 h3
  go_enter Try.func70, Try.ntmps70
  go_wp2_with fail
  go_region_held3 (fun x => x.cell? ⟨g, 0, none⟩ = some (.string ⟨#[83, 76, 73]⟩) ∧ x.cell? ⟨g, 1, none⟩ = some (.int .i64 z) ∧ x.cell? ⟨g, 2, none⟩ = some (.int .i64 y)) (first | exact K | exact K0 | assumption)
    (first
    | (go_at_call 83; (with_reducible refine (HD2.out _).mono ?_); rintro e_ w2 ⟨rfl, hb⟩; have KK : w2.cell? ⟨g, 0, none⟩ = some (.string ⟨#[83, 76, 73]⟩) ∧ w2.cell? ⟨g, 1, none⟩ = some (.int .i64 z) ∧ w2.cell? ⟨g, 2, none⟩ = some (.int .i64 y) := ⟨(hb.cell (World.block_lt_of_cell? _ _ K.1)).trans K.1, (hb.cell (World.block_lt_of_cell? _ _ K.2.1)).trans K.2.1, (hb.cell (World.block_lt_of_cell? _ _ K.2.2)).trans K.2.2⟩; have HB2 := Aside0.mk (below_then HB.out HB.out.size hb); clear hb; have K := KK)
    | (go_at_call 83; (with_reducible refine (HD.out _).mono ?_); rintro e_ w1 ⟨rfl, hb⟩; have K : w1.cell? ⟨g, 0, none⟩ = some (.string ⟨#[83, 76, 73]⟩) ∧ w1.cell? ⟨g, 1, none⟩ = some (.int .i64 z) ∧ w1.cell? ⟨g, 2, none⟩ = some (.int .i64 y) := ⟨(hb.cell (World.block_lt_of_cell? _ _ K0.1)).trans K0.1, (hb.cell (World.block_lt_of_cell? _ _ K0.2.1)).trans K0.2.1, (hb.cell (World.block_lt_of_cell? _ _ K0.2.2)).trans K0.2.2⟩; have HB := Aside0.mk (below_then (below_drew (Below.refl w.heap.size w)) (below_drew (Below.refl w.heap.size w)).size hb); clear hb))
  all_goals
    go_wp2
    go_ret
    exact ⟨by rw [app2]; rfl, HB2.out⟩
set_option maxRecDepth 100000 in
theorem fnString_0 (g : Nat) (w : World) (hp : w.heap[g]? = some (.cells #[.string ⟨#[71, 76, 79]⟩, .int .i64 0, .int .i64 0, .int .i64 0] 111 (0, 0))) :
    Calls Try.prog 70 #[.pointer (some ⟨g, 0, none⟩)] w fun e w' => e = .returned (.string ⟨#[71, 76, 79]⟩) ∧ Below w.heap.size w w' := by
  have c0 := (blk_cell hp 0).trans (rfl : _ = some (Value.string ⟨#[71, 76, 79]⟩))
  clear hp
  go_enter Try.func70, Try.ntmps70
  go_wp2
  go_ret
  exact ⟨rfl, Below.refl _ _⟩
/-- The function's text. -/
theorem fnString_any (g : Nat) (f : WF) (hs : In9 f.sz) (hd : In9 f.pd) (hg : In9 f.gp) (w : World) (hp : w.heap[g]? = some (.cells f.cells 111 (0, 0))) :
    Calls Try.prog 70 #[.pointer (some ⟨g, 0, none⟩)] w fun e w' => e = .returned (.string (ftxt f)) ∧ Below w.heap.size w w' := by
  unfold WF.cells at hp
  unfold ftxt
  by_cases k1 : f.k = 1
  · rw [if_pos k1] at hp ⊢
    exact fnString_1 g f.sz hs.1 hs.2 w hp
  · rw [if_neg k1] at hp ⊢
    by_cases k2 : f.k = 2
    · rw [if_pos k2] at hp ⊢
      exact fnString_2 g f.sz f.pd hs.1 hs.2 hd.1 hd.2 w hp
    · rw [if_neg k2] at hp ⊢
      by_cases k3 : f.k = 3
      · rw [if_pos k3] at hp ⊢
        exact fnString_3 g f.gp hg.1 hg.2 w hp
      · rw [if_neg k3] at hp ⊢
        exact fnString_0 g w hp
end Go.Proofs.Ytdifeleddhefnaa
