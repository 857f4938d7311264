/- Contracts: numbers and bytes written into a buffer of room 64; the closure of a row's nil fields. -/
import Derived.Test.YtgdbeiadlgkedaaDoorRhE
set_option linter.unusedVariables false
set_option linter.unusedSimpArgs false
namespace Go.Proofs.YtgdbeiadlgkedaaDoor
open Go.RowKit Go.Proofs.YtgdbeiadlgkedaaDoorW.PrintWords Go.Proofs.YtgdbeiadlgkedaaDoorW.PrintLast Go.Proofs.YtgdbeiadlgkedaaDoorW.PrintMore
theorem Kp.below {b g : Nat} {w w1 : World} (h : Below w.heap.size w w1) : Kp b g w w1 := ⟨h.os, h.tape, h.output, h.size, fun k hk _ _ => h.block k hk⟩
theorem BR.below {b g : Nat} {l : List UInt8} {w w1 : World} (h : BR b g l w) (hb : Below w.heap.size w w1) : BR b g l w1 := by
  obtain ⟨lr, cur, h1, h2, h3, h4, h5⟩ := h
  exact ⟨lr, cur, blk_below h1 hb, blk_below h2 hb, h3, h4, h5⟩
theorem wrU_room (b g : Nat) (l l2 : List UInt8) (a : Addr) (n c : Nat) (w : World) (h : BR b g l w) (hn : l2.length = n) (hn1 : l.length < 64) (hr : l.length + n ≤ 64) (h1 : a.block ≠ b) (h2 : a.block ≠ g) (hs : At w a l2) :
    Calls Tryd.prog 102 #[bfI b, .slice (some a) n c] w fun e w' => e = .returned (.tuple #[.int .i64 n, .nilIface]) ∧ BR b g (l ++ l2) w' ∧ Kp b g w w' := by
  have HC := Lib.hid (write_room b g l l2 a n c w h hn hn1 hr h1 h2 hs)
  clear h hn hn1 hr h1 h2 hs
  go_enter Tryd.func102, Tryd.ntmps102
  go_wp2_with (go_at_call 132; refine HC.out.mono ?_; rintro e_ w1 ⟨rfl, h1⟩; have H1 := Lib.hid h1; clear h1)
  go_ret2
  exact ⟨rfl, H1.out⟩
theorem wrU_first (b : Nat) (l2 : List UInt8) (a : Addr) (n c : Nat) (lr : Int) (w : World) (hb : w.heap[b]? = some (.cells #[.slice none 0 0, .int .i64 0, .int .i8 lr] 129 (0, 0))) (hn : l2.length = n) (hn1 : 1 ≤ n) (hr : n ≤ 64) (h1 : a.block ≠ b) (hlt : a.block < w.heap.size) (hs : At w a l2) :
    Calls Tryd.prog 102 #[bfI b, .slice (some a) n c] w fun e w' => e = .returned (.tuple #[.int .i64 n, .nilIface]) ∧ ∃ g, w.heap.size ≤ g ∧ BR b g l2 w' ∧ Kp b g w w' := by
  have HC := Lib.hid (write_first b l2 a n c lr w hb hn hn1 hr h1 hlt hs)
  clear hb hn hn1 hr h1 hlt hs
  go_enter Tryd.func102, Tryd.ntmps102
  go_wp2_with (go_at_call 132; refine HC.out.mono ?_; rintro e_ w1 ⟨rfl, h1⟩; have H1 := Lib.hid h1; clear h1)
  go_ret2
  exact ⟨rfl, H1.out⟩
theorem encI_first (b : Nat) (t : Int) (w : World) (hb : w.heap[b]? = some (.cells #[.slice none 0 0, .int .i64 0, .int .i8 0] 129 (0, 0))) :
    Calls Tryd.prog 82 #[.int .i64 t, bfI b] w fun e w' => e = .returned .nilIface ∧ ∃ g, w.heap.size ≤ g ∧ BR b g (Lib.uvarint (u64of t)) w' ∧ Kp b g w w' :=
  encVarI_abs b t w (fun w' => ∃ g, w.heap.size ≤ g ∧ BR b g (Lib.uvarint (u64of t)) w' ∧ Kp b g w w') (encVar_abs b (u64of t) w (u64of_lt t) _ (fun a c w1 hb1 ha hs => by
    have hl := Lib.uvarint_length64 (u64of_lt t)
    have hp := Lib.uvarint_pos (u64of t)
    have hbl := blk_lt hb
    refine (wrU_first b _ a _ c 0 w1 (blk_below hb hb1) rfl hp (by omega) (by omega) ?_ hs).mono fun e w' ⟨h1, g, h2, h3, h4⟩ => ⟨h1, g, Nat.le_trans hb1.size h2, h3, (Kp.below hb1).trans h4⟩
    have h0 := hs 0
    cases hu : Lib.uvarint (u64of t) with
    | nil => rw [hu] at hp; simp at hp
    | cons x xs =>
      have := hs 0 x (by rw [hu]; rfl)
      exact World.block_lt_of_cell? _ _ this))
theorem encI_room (b g : Nat) (l : List UInt8) (t : Int) (w : World) (h : BR b g l w) (hr : l.length + 10 ≤ 64) (hg : g < w.heap.size) (hbw : b < w.heap.size) :
    Calls Tryd.prog 82 #[.int .i64 t, bfI b] w fun e w' => e = .returned .nilIface ∧ BR b g (l ++ Lib.uvarint (u64of t)) w' ∧ Kp b g w w' :=
  encVarI_abs b t w (fun w' => BR b g (l ++ Lib.uvarint (u64of t)) w' ∧ Kp b g w w') (encVar_abs b (u64of t) w (u64of_lt t) _ (fun a c w1 hb1 ha hs => by
    have hl := Lib.uvarint_length64 (u64of_lt t)
    have hp := Lib.uvarint_pos (u64of t)
    exact (wrU_room b g l _ a _ c w1 (h.below hb1) rfl (by omega) (by omega) (by omega) (by omega) hs).mono fun e w' ⟨h1, h3, h4⟩ => ⟨h1, h3, (Kp.below hb1).trans h4⟩))
end Go.Proofs.YtgdbeiadlgkedaaDoor
