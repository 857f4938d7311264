/- Contracts: impl.RowHeader; the law of rows' headers. -/
import Derived.Test.YtgdbeiadlgkedaaDoorRhI
set_option linter.unusedVariables false
set_option linter.unusedSimpArgs false
namespace Go.Proofs.YtgdbeiadlgkedaaDoor
open Go.RowKit Go.Proofs.YtgdbeiadlgkedaaDoorW.PrintWords Go.Proofs.YtgdbeiadlgkedaaDoorW.PrintLast Go.Proofs.YtgdbeiadlgkedaaDoorW.PrintMore
theorem BR.bf {b g B : Nat} {l : List UInt8} {w : World} (h : BR b g l w) (hb : B ≤ b) (hg : B ≤ g) (hl : l.length ≤ 64) : Bf B b l w := by
  obtain ⟨lr, cur, h1, h2, h3, h4, h5⟩ := h
  have e : (Lib.byteCells l).length = l.length := Lib.byteCells_length l
  refine ⟨hb, .slice (some ⟨g, 0, none⟩) l.length 64, lr, h1, ⟨by omega, .inr ⟨g, 64, cur, by rw [e], hg, h2, by omega, by unfold maxLen; omega, by omega, by rw [e, Nat.mul_one]; exact h4⟩⟩, ?_⟩
  intro e2
  simp [Value.ownBlock] at e2
  exact h5 e2
theorem rhead_len (n : Nat) (l : List Bool) (hn : n ≤ 10000) (hl : l.length ≤ 200) : (rhead n l).length ≤ 64 := by
  have h1 := Lib.uvarint_length64 (x := n) (by omega)
  have h3 := rbytes_26 l hl
  have h2 := Lib.uvarint_length64 (x := (rbytes l).length) (by omega)
  unfold rhead
  rw [List.length_append, List.length_append, List.length_map]
  omega
set_option maxHeartbeats 4000000 in
set_option maxRecDepth 100000 in
theorem implRow_any (A : Option Addr) (cA n : Nat) (l : List Bool) (w : World) (hn : n ≤ 10000) (hl : l.length ≤ 200) (hln : l.length ≤ n) (hC : Kd.C Kd.bool w A l.length l) :
    Calls Tryd.prog 44 #[.int .i64 n, .slice A l.length cA] w fun e w' => e = .returned (.tuple #[.string ⟨(rhead n l).toArray⟩, .string ⟨#[]⟩]) ∧ Below w.heap.size w w' := by
  obtain ⟨W, hW⟩ : ∃ W, W = (w.alloc (.cells #[.slice A l.length cA] 75)).alloc (.cells #[.slice none 0 0, .int .i64 0, .int .i8 0] 129) := ⟨_, rfl⟩
  have hBW : Below w.heap.size w W := by rw [hW]; exact below_alloc (below_alloc (Below.refl _ w) _) _
  have hsz : W.heap.size = w.heap.size + 2 := by rw [hW]; simp
  have hN : NB (w.heap.size + 1) w.heap.size A cA l W := by
    refine ⟨?_, by omega, fun i hi => ?_⟩
    · rw [hW]; exact blk_alloc (heap_alloc_new w _) _
    · obtain ⟨ad, e, hc⟩ := atB hC i hi
      have hlt := World.block_lt_of_cell? _ _ hc
      rw [Go.ChangeShapes.block_add] at hlt
      exact ⟨ad, e, by omega, (World.cell?_of_block (a := ad.add i) (by rw [Go.ChangeShapes.block_add]; exact hBW.block _ hlt)).trans hc⟩
  have hb : W.heap[w.heap.size + 1]? = some (.cells #[.slice none 0 0, .int .i64 0, .int .i8 0] 129 (0, 0)) := by
    have := heap_alloc_new (w.alloc (.cells #[.slice A l.length cA] 75)) (.cells #[.slice none 0 0, .int .i64 0, .int .i8 0] 129)
    rw [World.size_alloc] at this
    rw [hW]; exact this
  have hc := writeRow_any (w.heap.size + 1) w.heap.size A cA n l W hn hl hln hb hN
  unfold CF at hc
  rw [hW] at hc
  have HC := Lib.hid hc
  have HL := Lib.hid (rhead_len n l hn hl)
  have HW := Lib.hid (And.intro hW (And.intro hBW hsz))
  clear hW hBW hsz hN hb hc hn hl hln hC
  go_enter Tryd.func44, Tryd.ntmps44
  go_wp2_with (first
    | (go_at_call 92; go_loud (refine HC.out.mono ?_; rintro e_ w1 ⟨rfl, g, h1, h2, h3⟩; rw [← HW.out.1] at h1 h3; have H1 := Lib.hid (And.intro h1 h3); have HF := Lib.hid (h2.bf (B := w.heap.size + 1) (Nat.le_refl _) (by have := HW.out.2.2; omega) HL.out); clear h1 h2 h3))
    | (go_at_call 84; refine (string_any _ _ _ _ HF.out).mono ?_; rintro e_ w3 ⟨rfl, q2, hq⟩; have HQ := Lib.hid hq; clear hq)
    | (go_at_call 63; refine (word_nil _).mono ?_; rintro e_ w4 ⟨rfl, rfl⟩))
  go_ret2
  refine ⟨rfl, ?_⟩
  have hk := H1.out.2
  have hg := H1.out.1
  obtain ⟨_, hBW, hsz⟩ := HW.out
  rw [HQ.out]
  refine ⟨hk.1.trans hBW.os, hk.2.1.trans hBW.tape, hk.2.2.1.trans hBW.output, Nat.le_trans hBW.size hk.2.2.2.1, fun k hlt => ?_⟩
  exact (hk.2.2.2.2 k (Nat.lt_of_lt_of_le hlt hBW.size) (by omega) (by omega)).trans (hBW.block k hlt)
end Go.Proofs.YtgdbeiadlgkedaaDoor
