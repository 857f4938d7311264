/- The walk of the statement on bools. -/
import Derived.Test.YtgdbeiadlgkedaaDoorL1
import Derived.Test.YtgdbeiadlgkedaaDoorDv0
import Derived.Test.YtgdbeiadlgkedaaDoorSp
import Derived.Laws.IdiomStrings
namespace Go.Proofs.YtgdbeiadlgkedaaDoor
open Go.RowKit
set_option linter.unusedVariables false
set_option linter.unusedSimpArgs false

theorem ne_empty {s : ByteArray} (h : s.data.toList ≠ []) : s.toList.isEmpty = false := by
  rw [ByteArray.toList_eq]
  cases hl : s.data.toList with
  | nil => exact absurd hl h
  | cons => rfl
set_option maxHeartbeats 4000000 in
set_option maxRecDepth 100000 in
theorem bools_row (pe pl : Addr) (b : Int) (w : World) (hb : (Lit.int .u8 b).wf = true) (he : Env w.heap.size pe pl w) :
    Calls Tryd.prog 3 #[.int .u8 b] w fun e w' => e = .returned (.bool true) ∧ Below w.heap.size w w' := by
  obtain ⟨h0, h1⟩ := u8_bd hb
  obtain ⟨n, rfl⟩ := Int.eq_ofNat_of_zero_le h0
  obtain ⟨x, hx⟩ : ∃ x : UInt8, x.toNat = n := ⟨n.toUInt8, u8_toNat (by omega)⟩
  have kc := conv1 x n hx
  have he1 : ∀ o, Env w.heap.size pe pl (w.alloc o) := fun o => he.below ((Below.refl _ w).alloc (Nat.le_refl _) o)
  have HE := Lib.hid he
  by_cases hx0 : x = 0
  · subst hx0
    obtain rfl : n = 0 := hx.symm
    have kc : ∀ W : World, (convert 29 9 (.slice (some ⟨W.heap.size, 0, none⟩) 1 1)).run Tryd.prog (W.alloc (.cells #[.int .u8 0] 5)) = .ok (.string ⟨#[0]⟩) (W.alloc (.cells #[.int .u8 0] 5)) := fun W => conv1 0 0 rfl W
    show Calls Tryd.prog 3 #[.int .u8 0] w _
    have HC := Lib.hid (decVal_0_f w.heap.size pe pl ⟨#[0]⟩ (w.alloc (.cells #[.int .u8 0] 5)) (by decide) (he1 _) (by simp) rfl)
    clear he he1 hb h0 h1 hx
    go_enter Tryd.func3, Tryd.ntmps3
    go_wp2_with (first
      | (go_at_call 20; go_loud (refine HC.out.mono ?_; rintro e_ w2 ⟨rfl, hb2⟩; have HB := Lib.hid (((Below.refl _ w).alloc (Nat.le_refl _) _).trans (hb2.mono (by simp))); clear hb2))
      | (go_at_call 21; go_loud (refine (awake_any w.heap.size pe pl _ (HE.out.below (HB.out.alloc HB.out.size _)) (by have := HB.out.size; simp; omega)).mono ?_; rintro e_ w3 ⟨rfl, hb3⟩; have HB3 := Lib.hid ((HB.out.alloc HB.out.size _).trans (hb3.mono (by have := HB.out.size; simp; omega))); obtain ⟨hc_, hf_⟩ := (⟨fun o => hb3.cell (p := ⟨w2.heap.size, o, none⟩) (by simp), trivial⟩ : (∀ o, w3.cell? ⟨w2.heap.size, o, none⟩ = _) ∧ True); have x1 := (hc_ 1).trans ((blk_cell (heap_alloc_new w2 _) 1).trans rfl); clear hc_ hb3)))
    go_ret
    exact ⟨rfl, HB3.out⟩
  · by_cases hx1 : x = 1
    · subst hx1
      obtain rfl : n = 1 := hx.symm
      have kc : ∀ W : World, (convert 29 9 (.slice (some ⟨W.heap.size, 0, none⟩) 1 1)).run Tryd.prog (W.alloc (.cells #[.int .u8 1] 5)) = .ok (.string ⟨#[1]⟩) (W.alloc (.cells #[.int .u8 1] 5)) := fun W => conv1 1 1 rfl W
      show Calls Tryd.prog 3 #[.int .u8 1] w _
      have HC := Lib.hid (decVal_0_t w.heap.size pe pl ⟨#[1]⟩ (w.alloc (.cells #[.int .u8 1] 5)) (by decide) (he1 _) (by simp) rfl)
      clear he he1 hb h0 h1 hx hx0
      go_enter Tryd.func3, Tryd.ntmps3
      go_wp2_with (first
        | (go_at_call 20; go_loud (refine HC.out.mono ?_; rintro e_ w2 ⟨rfl, hb2⟩; have HB := Lib.hid (((Below.refl _ w).alloc (Nat.le_refl _) _).trans (hb2.mono (by simp))); clear hb2))
        | (go_at_call 21; go_loud (refine (awake_any w.heap.size pe pl _ (HE.out.below (HB.out.alloc HB.out.size _)) (by have := HB.out.size; simp; omega)).mono ?_; rintro e_ w3 ⟨rfl, hb3⟩; have HB3 := Lib.hid ((HB.out.alloc HB.out.size _).trans (hb3.mono (by have := HB.out.size; simp; omega))); obtain ⟨hc_, hf_⟩ := (⟨fun o => hb3.cell (p := ⟨w2.heap.size, o, none⟩) (by simp), trivial⟩ : (∀ o, w3.cell? ⟨w2.heap.size, o, none⟩ = _) ∧ True); have x1 := (hc_ 1).trans ((blk_cell (heap_alloc_new w2 _) 1).trans rfl); clear hc_ hb3)))
      go_ret
      exact ⟨rfl, HB3.out⟩
    · have HC := Lib.hid (decVal_0_bad w.heap.size pe pl ⟨#[x]⟩ (w.alloc (.cells #[.int .u8 (n : Int)] 5)) (by show (1 : Nat) ≤ _; omega) (he1 _) (by simp) x ⟨rfl, hx0, hx1⟩)
      have hn2 : 1 < (n : Int) := by
        have a0 : x.toNat ≠ 0 := fun e => hx0 (UInt8.toNat_inj.1 e)
        have a1 : x.toNat ≠ 1 := fun e => hx1 (UInt8.toNat_inj.1 e)
        omega
      clear he he1 hb h0 h1 hx hx0 hx1
      go_enter Tryd.func3, Tryd.ntmps3
      go_wp2_with (first
        | (go_at_call 20; go_loud (refine HC.out.mono ?_; rintro e_ w2 ⟨rn, rs, rfl, hrn, hrs, hb2⟩; have hne1 := ne_empty hrs; have HB := Lib.hid (((Below.refl _ w).alloc (Nat.le_refl _) _).trans (hb2.mono (by simp))); clear hb2 hrs hrn))
        | (go_at_call 21; go_loud (refine (awake_any w.heap.size pe pl _ (HE.out.below (HB.out.alloc HB.out.size _)) (by have := HB.out.size; simp; omega)).mono ?_; rintro e_ w3 ⟨rfl, hb3⟩; have HB3 := Lib.hid ((HB.out.alloc HB.out.size _).trans (hb3.mono (by have := HB.out.size; simp; omega))); obtain ⟨hc_, hf_⟩ := (⟨fun o => hb3.cell (p := ⟨w2.heap.size, o, none⟩) (by simp), trivial⟩ : (∀ o, w3.cell? ⟨w2.heap.size, o, none⟩ = _) ∧ True); have x1 := (hc_ 1).trans ((blk_cell (heap_alloc_new w2 _) 1).trans rfl); clear hc_ hb3)))
      go_ret
      exact ⟨rfl, HB3.out⟩
end Go.Proofs.YtgdbeiadlgkedaaDoor
