/- Contracts of a timer's options and of its calls Set, Clear, ClearTag. -/
import Derived.Test.YtoigekmdicepnaaTa
set_option linter.unusedVariables false
set_option linter.unusedSimpArgs false
namespace Go.Proofs.Ytoigekmdicepnaa
open Go.RowKit Go.Proofs.YtoigekmdicepnaaW.PrintWords Go.Proofs.YtoigekmdicepnaaW.PrintLast Go.Proofs.YtoigekmdicepnaaW.PrintMore

/-- A time cut to the ends of time. -/
def cutT (t : Int) : Int := if t < -9223372036854775 then -9223372036854775 else if 9223372036854775 < t then 9223372036854775 else t
def mxT (a b : Int) : Int := if a < b then b else a
def mnT (a b : Int) : Int := if a < b then a else b
theorem ret_int {k : IntKind} {a b : Int} (h : a = b) : Ending.returned (.int k a) = .returned (.int k b) := by rw [h]
theorem ret_bool {a b : Bool} (h : a = b) : Ending.returned (.bool a) = .returned (.bool b) := by rw [h]
theorem cut_mx (t : Int) : mnT (mxT t (-9223372036854775)) 9223372036854775 = cutT t := by
  unfold cutT mnT mxT
  split <;> split <;> (try split) <;> (try split) <;> omega
theorem max_any (a b : Int) (w : World) : Calls Try.prog 131 #[.int .i64 a, .int .i64 b] w fun e w' => e = .returned (.int .i64 (mxT a b)) ∧ w = w' := by
  by_cases h : a < b
  · go_enter Try.func131, Try.ntmps131
    go_wp2
    go_ret
    exact ⟨ret_int (by unfold mxT; rw [if_pos h]), rfl⟩
  · go_enter Try.func131, Try.ntmps131
    go_wp2
    go_ret
    exact ⟨ret_int (by unfold mxT; rw [if_neg (by omega)]), rfl⟩
theorem min_any (a b : Int) (w : World) : Calls Try.prog 130 #[.int .i64 a, .int .i64 b] w fun e w' => e = .returned (.int .i64 (mnT a b)) ∧ w = w' := by
  by_cases h : a < b
  · go_enter Try.func130, Try.ntmps130
    go_wp2
    go_ret
    exact ⟨ret_int (by unfold mnT; rw [if_pos h]), rfl⟩
  · go_enter Try.func130, Try.ntmps130
    go_wp2
    go_ret
    exact ⟨ret_int (by unfold mnT; rw [if_neg (by omega)]), rfl⟩
theorem norm_any (t : Int) (w : World) : Calls Try.prog 124 #[.int .i64 t] w fun e w' => e = .returned (.int .i64 (cutT t)) ∧ w = w' := by
  go_enter Try.func124, Try.ntmps124
  go_wp2_with (first | (go_at_call 131; refine (max_any _ _ _).mono ?_; rintro e w' ⟨rfl, rfl⟩) | (go_at_call 130; refine (min_any _ _ _).mono ?_; rintro e w' ⟨rfl, rfl⟩))
  go_ret
  exact ⟨ret_int (cut_mx t), rfl⟩

/-- An option of a timer: its tag, its output time, or none; the first two with the cell that they hold. -/
inductive Op3 where
  | tag (b : Nat) (s : ByteArray)
  | hold (b : Nat) (t : Int)
  | no
def Op3.val : Op3 → Value
  | .tag b _ => .func (.func 125) #[] #[.pointer (some ⟨b, 0, none⟩)]
  | .hold b _ => .func (.func 126) #[] #[.pointer (some ⟨b, 0, none⟩)]
  | .no => .func (.func 127) #[] #[]
theorem Op3.val_one (x : Op3) : (x.val).oneCell' = true := by cases x <;> rfl
def Op3.ok (w : World) : Op3 → Prop
  | .tag b s => w.cell? ⟨b, 0, none⟩ = some (.string s)
  | .hold b t => w.cell? ⟨b, 0, none⟩ = some (.int .i64 t)
  | .no => True
theorem Op3.ok_below {w w' : World} {x : Op3} (h : x.ok w) (hb : Below w.heap.size w w') : x.ok w' := by
  cases x with
  | tag b s => exact pw_cell_below hb h
  | hold b t => exact pw_cell_below hb h
  | no => trivial
structure TC where
  t : ByteArray
  b : Bool
  h : Int
def Op3.app (c : TC) : Op3 → TC
  | .tag _ s => { c with t := s }
  | .hold _ t => { c with b := true, h := cutT t }
  | .no => { c with b := true, h := 9223372036854775 }
def appAll (os : List Op3) : TC := os.foldl Op3.app ⟨ByteArray.empty, false, 0⟩
def TC.cells (c : TC) : Array Value := #[.string c.t, .bool c.b, .int .i64 c.h]
def kOp : Kd Op3 := Kd.scalar Op3.val Op3.val_one
def rdOp (xs : List Op3) (i : Nat) : Op3 := xs.getD i .no
theorem atOp {w : World} {A : Option Addr} {n : Nat} {xs : List Op3} (h : Kd.C kOp w A n xs) (i : Nat) (h1 : i < n) : ∃ ad, A = some ad ∧ w.cell? (ad.add i) = some (rdOp xs i).val := by
  obtain ⟨ad, c, e, _, hK, hc0⟩ := Kd.C_get h .no (i : Int) (by omega) (by omega)
  have hc : ∀ j u, c[j]? = some u → w.cell? (ad.add (i * 1 + j)) = some u := hc0
  obtain rfl : c = [(rdOp xs i).val] := hK
  exact ⟨ad, e, by have := hc 0 _ rfl; simpa using this⟩
theorem appAll_succ (os : List Op3) (k : Nat) (h : k < os.length) : appAll (os.take (k + 1)) = (rdOp os k).app (appAll (os.take k)) := by
  unfold appAll
  rw [List.take_succ_eq_append_getElem h, List.foldl_append]
  simp [rdOp, List.getD_eq_getElem?_getD, h]

theorem tag_any (tcb b : Nat) (s : ByteArray) (c : TC) (w : World) (htc : w.heap[tcb]? = some (.cells c.cells 239 (0, 0))) (hb : w.cell? ⟨b, 0, none⟩ = some (.string s)) :
    Calls Try.prog 125 #[.pointer (some ⟨tcb, 0, none⟩), .pointer (some ⟨b, 0, none⟩)] w fun e w' => e = .returned (.tuple #[]) ∧ w'.heap[tcb]? = some (.cells (Op3.app c (.tag b s)).cells 239 (0, 0)) ∧ (∀ i, i ≠ tcb → w'.heap[i]? = w.heap[i]?) ∧ ∀ W : World, Below W.heap.size W w → W.heap.size ≤ tcb → Below W.heap.size W w' := by
  have HT := Aside0.mk (blk_set htc 0 (.string s))
  have k0 := (blk_cell htc 0).trans rfl
  have f0 := blk_frozen htc 0
  clear htc
  go_enter Try.func125, Try.ntmps125
  go_wp2
  go_end0
  exact ⟨rfl, HT.out, fun i hi => Below.heap_setCell _ _ _ i hi, fun W h1 h2 => h1.setCell h2 _⟩
theorem hold_any (tcb b : Nat) (t : Int) (c : TC) (w : World) (htc : w.heap[tcb]? = some (.cells c.cells 239 (0, 0))) (hb : w.cell? ⟨b, 0, none⟩ = some (.int .i64 t)) (hne : b ≠ tcb) :
    Calls Try.prog 126 #[.pointer (some ⟨tcb, 0, none⟩), .pointer (some ⟨b, 0, none⟩)] w fun e w' => e = .returned (.tuple #[]) ∧ w'.heap[tcb]? = some (.cells (Op3.app c (.hold b t)).cells 239 (0, 0)) ∧ (∀ i, i ≠ tcb → w'.heap[i]? = w.heap[i]?) ∧ ∀ W : World, Below W.heap.size W w → W.heap.size ≤ tcb → Below W.heap.size W w' := by
  have HT := Aside0.mk (blk_set (blk_set htc 1 (.bool true)) 2 (.int .i64 (cutT t)))
  have k1 := (blk_cell htc 1).trans rfl
  have f1 := blk_frozen htc 1
  have k2 := (blk_cell (blk_set htc 1 (.bool true)) 2).trans rfl
  have f2 := blk_frozen (blk_set htc 1 (.bool true)) 2
  have kb : (w.setCell ⟨tcb, 1, none⟩ (.bool true)).cell? ⟨b, 0, none⟩ = some (.int .i64 t) := (cell_far (p := ⟨tcb, 1, none⟩) hne _).trans hb
  clear htc hb
  go_enter Try.func126, Try.ntmps126
  go_wp2_with (go_at_call 124; refine (norm_any _ _).mono ?_; rintro e w' ⟨rfl, rfl⟩)
  go_end0
  exact ⟨rfl, HT.out, fun i hi => (Below.heap_setCell _ _ _ i hi).trans (Below.heap_setCell _ _ _ i hi), fun W h1 h2 => (h1.setCell h2 _).setCell h2 _⟩
theorem no_any (tcb : Nat) (c : TC) (w : World) (htc : w.heap[tcb]? = some (.cells c.cells 239 (0, 0))) :
    Calls Try.prog 127 #[.pointer (some ⟨tcb, 0, none⟩)] w fun e w' => e = .returned (.tuple #[]) ∧ w'.heap[tcb]? = some (.cells (Op3.app c .no).cells 239 (0, 0)) ∧ (∀ i, i ≠ tcb → w'.heap[i]? = w.heap[i]?) ∧ ∀ W : World, Below W.heap.size W w → W.heap.size ≤ tcb → Below W.heap.size W w' := by
  have HT := Aside0.mk (blk_set (blk_set htc 1 (.bool true)) 2 (.int .i64 9223372036854775))
  have k1 := (blk_cell htc 1).trans rfl
  have f1 := blk_frozen htc 1
  have k2 := (blk_cell (blk_set htc 1 (.bool true)) 2).trans rfl
  have f2 := blk_frozen (blk_set htc 1 (.bool true)) 2
  clear htc
  go_enter Try.func127, Try.ntmps127
  go_wp2
  go_end0
  exact ⟨rfl, HT.out, fun i hi => (Below.heap_setCell _ _ _ i hi).trans (Below.heap_setCell _ _ _ i hi), fun W h1 h2 => (h1.setCell h2 _).setCell h2 _⟩
theorem GV.below {w w' : World} {g base : Nat} {xs : List TM} (h : GV w g base xs) (hb : Below w.heap.size w w') : GV w' g base xs := by
  obtain ⟨v, h1, h2, h3⟩ := h
  exact ⟨v, blk_below h1 hb, Kd.R_below h2 hb, h3⟩
end Go.Proofs.Ytoigekmdicepnaa
