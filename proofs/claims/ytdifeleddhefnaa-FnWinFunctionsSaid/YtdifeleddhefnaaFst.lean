/- The text of a duration: the contract of (time.Duration).String. -/
import Derived.Test.YtdifeleddhefnaaFmu
import Derived.Laws.BytesArg
import Derived.Lib.SlBytesRow
set_option linter.unusedVariables false
set_option linter.unusedSimpArgs false
namespace Go.Proofs.Ytdifeleddhefnaa
open Go.RowKit Go.Proofs.YtdifeleddhefnaaW.PrintWords

theorem Tl.cells {w : World} {g n : Nat} {t : List Int} (h : Tl w g n t) : ∀ i, i < t.length → w.cell? ⟨g, n + i, none⟩ = some (.int .u8 (t.getD i 0)) := fun i hi => by
  obtain ⟨a, h1, h2, h3, h4, h5⟩ := h
  rw [blk_cell h1, h5 i _ (List.getElem?_eq_getElem hi)]
  simp [List.getD, hi]
/-- The string of bytes. -/
abbrev bstr (t : List Int) : ByteArray := strOfNums t
theorem conv_tl {w : World} {g n : Nat} {t : List Int} (h : Tl w g n t) (c : Nat) : (convert 128 9 (.slice (some ⟨g, n, none⟩) t.length c)).run Try.prog w = .ok (.string (bstr t)) w :=
  run_convert_bytes_arg w 128 5 Try.underlying128 Try.underlying5 g n t.length c t rfl h.cells 9 Try.underlying9
theorem dtxt_pos (ms : Nat) : 1 ≤ (dtxt ms).length := by
  unfold dtxt
  split
  · simp
  · split
    · simp
    · simp only []
      split
      · have := dg_len (ms / 1000 % 60); simp; omega
      · split
        · have := dg_len (ms / 1000 / 60 % 60); simp; omega
        · have := dg_len (ms / 1000 / 60 / 60); simp; omega
set_option maxRecDepth 100000 in
set_option maxHeartbeats 4000000 in
theorem durString_any (ms : Nat) (h1 : ms ≤ 1000000000) (z : Int) (hz : z = ((ms * 1000000 : Nat) : Int)) (w : World) :
    Calls Try.prog 83 #[.int .i64 z] w fun e w' => e = .returned (.string (bstr (dtxt ms))) ∧ Below w.heap.size w w' := by
  have HZ := Aside0.mk hz
  have H1 := Aside0.mk h1
  clear hz h1
  go_enter Try.func83, Try.ntmps83
  go_wp2_with fail
  rw [HZ.out]
  refine (format_any w.heap.size ms H1.out _ ⟨_, heap_alloc_new w _, rfl, fun i hi => ?ci, rfl, fun j x hx => by simp at hx⟩).mono ?_
  case ci =>
    have : i = 0 ∨ i = 1 ∨ i = 2 ∨ i = 3 ∨ i = 4 ∨ i = 5 ∨ i = 6 ∨ i = 7 ∨ i = 8 ∨ i = 9 ∨ i = 10 ∨ i = 11 ∨ i = 12 ∨ i = 13 ∨ i = 14 ∨ i = 15 ∨ i = 16 ∨ i = 17 ∨ i = 18 ∨ i = 19 ∨ i = 20 ∨ i = 21 ∨ i = 22 ∨ i = 23 ∨ i = 24 ∨ i = 25 ∨ i = 26 ∨ i = 27 ∨ i = 28 ∨ i = 29 ∨ i = 30 ∨ i = 31 := by omega
    rcases this with rfl | rfl | rfl | rfl | rfl | rfl | rfl | rfl | rfl | rfl | rfl | rfl | rfl | rfl | rfl | rfl | rfl | rfl | rfl | rfl | rfl | rfl | rfl | rfl | rfl | rfl | rfl | rfl | rfl | rfl | rfl | rfl <;> exact ⟨0, rfl⟩
  rintro e_ w2 ⟨k, rfl, hT, hO⟩
  have hk := hT.len
  have HB := Aside0.mk (hO w (below_alloc (Below.refl _ _) _) (Nat.le_refl _))
  have hcv := conv_tl hT (32 - k)
  rw [show (dtxt ms).length = 32 - k by omega] at hcv
  have qk : (k : Int) ≤ 32 := by omega
  have hne : ¬ 32 = k := by have := dtxt_pos ms; omega
  clear hT hO hk
  go_wp2
  go_ret
  exact ⟨rfl, HB.out⟩
end Go.Proofs.Ytdifeleddhefnaa
