/- Contracts: a bytes.Reader over bytes that nobody writes: Read, Len, and the package's ReadNBufUnsafe, ReadUnsafe. -/
import Derived.Test.YtgdbeiadlgkedaaDoorProg
import Derived.WalkKit
import Derived.WalkSpells
import Derived.WalkLawsBesides
import Derived.Handy
import Derived.Below
import Derived.Lib.Buffer
import Derived.Lib.BufferOwn
import Derived.Laws.CopyRow
import Derived.Laws.IdiomCopy
import Derived.Deep.QuietTactic
import Derived.BigQuiet
import Derived.StillTailTactics
import Derived.Lib.Hide
import Derived.Deep.RegionWith
namespace Go.Proofs.YtgdbeiadlgkedaaDoor
open Go.RowKit
set_option linter.unusedVariables false
set_option linter.unusedSimpArgs false

theorem blk_lt {w : World} {g : Nat} {o : Obj} (h : w.heap[g]? = some o) : g < w.heap.size := (Array.getElem?_eq_some_iff.1 h).1
theorem blk_cell {w : World} {g : Nat} {cs : Array Value} {T : TypeId} {fr : Nat × Nat} (h : w.heap[g]? = some (.cells cs T fr)) (i : Nat) : w.cell? ⟨g, i, none⟩ = cs[i]? := by simp [World.cell?, h]
theorem blk_frozen {w : World} {g : Nat} {cs : Array Value} {T : TypeId} (h : w.heap[g]? = some (.cells cs T (0, 0))) (i : Nat) : w.frozen? ⟨g, i, none⟩ = false := Lib.frozen_of_heap h i
/-- Only the blocks r and d may have turned. -/
structure Two (r d : Nat) (w w' : World) : Prop where
  os : w'.os = w.os
  tape : w'.tape = w.tape
  output : w'.output = w.output
  size : w.heap.size ≤ w'.heap.size
  block : ∀ k, k < w.heap.size → k ≠ r → k ≠ d → w'.heap[k]? = w.heap[k]?
theorem Two.refl (r d : Nat) (w : World) : Two r d w w := ⟨rfl, rfl, rfl, Nat.le_refl _, fun _ _ _ _ => rfl⟩
theorem Two.trans {r d : Nat} {w w1 w2 : World} (h : Two r d w w1) (k : Two r d w1 w2) : Two r d w w2 :=
  ⟨k.os.trans h.os, k.tape.trans h.tape, k.output.trans h.output, Nat.le_trans h.size k.size, fun i hi a b => (k.block i (Nat.lt_of_lt_of_le hi h.size) a b).trans (h.block i hi a b)⟩
theorem Two.drewN {r d : Nat} {w w' : World} (h : Two r d w w') (n : Nat) : Two r d w (w'.drewN n) := ⟨h.os, h.tape, h.output, h.size, h.block⟩
theorem Two.set {r d : Nat} {w w' : World} (h : Two r d w w') (a : Addr) (v : Value) (ha : a.block = r ∨ a.block = d) : Two r d w (w'.setCell a v) :=
  ⟨h.os, h.tape, h.output, by simpa [World.setCell] using h.size, fun k hk h1 h2 => (Below.heap_setCell _ _ _ _ (by rcases ha with e | e <;> rw [e] <;> first | exact fun e => h1 e | exact fun e => h2 e | exact fun e => h1 e.symm | exact fun e => h2 e.symm)).trans (h.block k hk h1 h2)⟩
theorem Two.row {r d : Nat} {w w' : World} (h : Two r d w w') (cs : Array Value) : Two r d w (w'.setRow d cs) :=
  ⟨h.os, h.tape, h.output, by simpa [World.setRow] using h.size, fun k hk h1 h2 => by
    have := h.block k hk h1 h2
    simp only [World.setRow, Array.getElem?_modify, if_neg (fun e => h2 (Eq.symm e) : ¬ d = k)]
    exact this⟩
/-- Behind the reader r and a block of the call's own only r has turned. -/
theorem Two.grown {r d : Nat} {w w1 w2 : World} (h : w.grownBy w1 (some r)) (k : Two r d w1 w2) (hd : w.heap.size ≤ d) : w.grownBy w2 (some r) :=
  ⟨k.os.trans h.os, k.tape.trans h.tape, k.output.trans h.output, Nat.le_trans h.size k.size, fun i hi hr => (k.block i (Nat.lt_of_lt_of_le hi h.size) (fun e => hr (by rw [e])) (by omega)).trans (h.block i hi hr)⟩
/-- A bytes.Reader in block r, over the bytes l, of which i are read. -/
def Rd (r g : Nat) (l : List UInt8) (i : Nat) (w : World) : Prop :=
  ∃ (c : Nat) (pv : Int), w.heap[r]? = some (.cells #[.slice (some ⟨g, 0, none⟩) l.length c, .int .i64 i, .int .i64 pv] 158 (0, 0)) ∧ g ≠ r ∧ l.length ≤ c ∧ c ≤ 9223372036854775807 ∧ i ≤ l.length ∧ l.length ≤ 4294967296 ∧ (∃ o, w.heap[g]? = some o) ∧ ∀ j x, l[j]? = some x → w.cell? ⟨g, j, none⟩ = some (.int .u8 x.toNat)
theorem Rd.ltg {r g : Nat} {l : List UInt8} {i : Nat} {w : World} (h : Rd r g l i w) : g < w.heap.size := by obtain ⟨_, _, _, _, _, _, _, _, ⟨_, h⟩, _⟩ := h; exact blk_lt h
theorem Rd.lt {r g : Nat} {l : List UInt8} {i : Nat} {w : World} (h : Rd r g l i w) : r < w.heap.size := by obtain ⟨_, _, h, _⟩ := h; exact blk_lt h
theorem Rd.le {r g : Nat} {l : List UInt8} {i : Nat} {w : World} (h : Rd r g l i w) : i ≤ l.length := by obtain ⟨_, _, _, _, _, _, h, _⟩ := h; exact h
theorem Rd.len {r g : Nat} {l : List UInt8} {i : Nat} {w : World} (h : Rd r g l i w) : l.length ≤ 4294967296 := by obtain ⟨_, _, _, _, _, _, _, h, _⟩ := h; exact h
/-- The block of the bytes is another than d where d came later. -/
theorem Rd.kept {r g : Nat} {l : List UInt8} {i : Nat} {w w' : World} (h : Rd r g l i w) (hk : ∀ k, k < w.heap.size → w'.heap[k]? = w.heap[k]?) : Rd r g l i w' := by
  obtain ⟨c, pv, h1, h2, h3, h4, h5, h6, ⟨o, h7⟩, h8⟩ := h
  exact ⟨c, pv, (hk r (blk_lt h1)).trans h1, h2, h3, h4, h5, h6, ⟨o, (hk g (blk_lt h7)).trans h7⟩, fun j x hj => (World.cell?_of_block (a := ⟨g, j, none⟩) (hk g (blk_lt h7))).trans (h8 j x hj)⟩
theorem Rd.drewN {r g : Nat} {l : List UInt8} {i : Nat} {w : World} (h : Rd r g l i w) (n : Nat) : Rd r g l i (w.drewN n) := h.kept fun _ _ => rfl
theorem Rd.alloc {r g : Nat} {l : List UInt8} {i : Nat} {w : World} (h : Rd r g l i w) (o : Obj) : Rd r g l i (w.alloc o) := h.kept fun k hk => Below.heap_alloc w o k hk
theorem Rd.below {r g : Nat} {l : List UInt8} {i : Nat} {w w' : World} (h : Rd r g l i w) (hb : Below w.heap.size w w') : Rd r g l i w' := h.kept fun k hk => hb.block k hk
/-- The bytes that 'Read' gives, as cells. -/
def cellsOf (l : List UInt8) : List Value := l.map fun b => .int .u8 b.toNat
theorem cellsOf_get {l : List UInt8} {j : Nat} {v : Value} (h : (cellsOf l)[j]? = some v) : ∃ x, l[j]? = some x ∧ v = .int .u8 x.toNat := by
  unfold cellsOf at h
  rw [List.getElem?_map] at h
  cases hx : l[j]? with
  | none => rw [hx] at h; cases h
  | some x => rw [hx] at h; exact ⟨x, rfl, (Option.some.inj h).symm⟩
theorem cellsOf_one {l : List UInt8} : ∀ v ∈ cellsOf l, v.oneCell' = true := by
  intro v hv
  unfold cellsOf at hv
  obtain ⟨x, _, rfl⟩ := List.mem_map.1 hv
  rfl
theorem cellsOf_len (l : List UInt8) : (cellsOf l).length = l.length := by simp [cellsOf]
/-- A row with bytes laid from o on. -/
def laidAt (cur : Array Value) (o : Nat) (l : List UInt8) : Array Value := (cur.toList.take o ++ cellsOf l ++ cur.toList.drop (o + (cellsOf l).length)).toArray
theorem size_u8 : (Tryd.prog.info? 5).map (·.size) = some 1 := by kernel_rfl
set_option maxHeartbeats 2000000 in
/-- Read at the end. -/
theorem read_end (r g : Nat) (l : List UInt8) (a : Option Addr) (n c : Nat) (ev : Value) (w : World) (h : Rd r g l l.length w) (he : w.cell? ⟨0, 0, none⟩ = some ev) :
    Calls Tryd.prog 127 #[.pointer (some ⟨r, 0, none⟩), .slice a n c] w fun e w' => e = .returned (.tuple #[.int .i64 0, ev]) ∧ ∃ q, w' = w.drewN q := by
  obtain ⟨cp, pv, h1, h2, h3, h4, h5, h6, h7, h8⟩ := h
  have c0 : w.cell? ⟨r, 0, none⟩ = some (.slice (some ⟨g, 0, none⟩) l.length cp) := (blk_cell h1 0).trans rfl
  have c1 : w.cell? ⟨r, 1, none⟩ = some (.int .i64 (l.length : Int)) := (blk_cell h1 1).trans rfl
  clear h1 h7 h8
  go_enter Tryd.func127, Tryd.ntmps127
  go_wp2
  go_quiet (fail)
  go_wp2
  go_quiet (fail)
  go_wp2
  go_ret2
  exact ⟨rfl, _, World.drewN_drewN ..⟩
/-- The reader further on, the bytes laid. -/
theorem rd_done {r g d m : Nat} {l : List UInt8} {i cp : Nat} {W : World} {cur : Array Value} {T : TypeId}
    (h1 : W.heap[r]? = some (.cells #[.slice (some ⟨g, 0, none⟩) l.length cp, .int .i64 i, .int .i64 (-1)] 158 (0, 0))) (h2 : g ≠ r) (h3 : l.length ≤ cp) (h4 : cp ≤ 9223372036854775807) (h6 : l.length ≤ 4294967296)
    (h7 : ∃ o, W.heap[g]? = some o) (h8 : ∀ j x, l[j]? = some x → W.cell? ⟨g, j, none⟩ = some (.int .u8 x.toNat))
    (hd : W.heap[d]? = some (.cells cur T (0, 0))) (hdr : d ≠ r) (hdg : d ≠ g) (hm : i + m ≤ l.length) (cs : Array Value) :
    Rd r g l (i + m) ((W.setRow d cs).setCell ⟨r, 1, none⟩ (.int .i64 ((i + m : Nat) : Int))) ∧ ((W.setRow d cs).setCell ⟨r, 1, none⟩ (.int .i64 ((i + m : Nat) : Int))).heap[d]? = some (.cells cs T (0, 0)) := by
  have a1 : (W.setRow d cs).heap[r]? = W.heap[r]? := by simp [World.setRow, Array.getElem?_modify, hdr]
  have a2 : (W.setRow d cs).heap[g]? = W.heap[g]? := by simp [World.setRow, Array.getElem?_modify, hdg]
  have a3 : (W.setRow d cs).heap[d]? = some (.cells cs T (0, 0)) := by simp [World.setRow, Array.getElem?_modify, hd]
  have b1 := Lib.heap_setCell_same (i := 1) (a1.trans h1) (.int .i64 ((i + m : Nat) : Int))
  obtain ⟨x, h7⟩ := h7
  have b2 : ((W.setRow d cs).setCell ⟨r, 1, none⟩ (.int .i64 ((i + m : Nat) : Int))).heap[g]? = W.heap[g]? := (Below.heap_setCell _ _ _ _ (fun e => h2 e)).trans a2
  refine ⟨⟨cp, -1, b1.trans rfl, h2, h3, h4, hm, h6, ⟨x, b2.trans h7⟩, fun j y hj => (World.cell?_of_block (a := ⟨g, j, none⟩) b2).trans (h8 j y hj)⟩, ?_⟩
  exact (Below.heap_setCell _ _ _ _ (fun e => hdr e)).trans a3
/-- A region that draws: its head only reads; its tail goes in the order of the text. -/
theorem still_tail {P : Program} {id : Nat} {Q : Exit → Act → World → Prop} {a : Act} {w : World} {l : List Oper} (n : Nat) (hm : P.follows .mixedOrders = true) (hB : Region.lexTailB .any l.toArray n = true)
    (h : wpStill P l.toArray (w.drewN 1) (fun a' => wpList P l.toArray Q (l.drop n) a' (w.drewN 1)) (l.take n) a) : (Code.region id l.toArray true).wp P Q a w :=
  wp_region_still_tail n hm hB h
set_option maxHeartbeats 2000000 in
set_option maxRecDepth 100000 in
/-- Read ahead of the end. -/
theorem read_some (r g : Nat) (l : List UInt8) (i d o n c m : Nat) (cur : Array Value) (T : TypeId) (w : World) (h : Rd r g l i w) (hi : i < l.length) (hd : w.heap[d]? = some (.cells cur T (0, 0))) (hdr : d ≠ r) (hdg : d ≠ g) (hm : m = min n (l.length - i)) (hfit : o + n ≤ cur.size) :
    Calls Tryd.prog 127 #[.pointer (some ⟨r, 0, none⟩), .slice (some ⟨d, o, none⟩) n c] w fun e w' => e = .returned (.tuple #[.int .i64 m, .nilIface]) ∧ Rd r g l (i + m) w' ∧ w'.heap[d]? = some (.cells (laidAt cur o ((l.drop i).take m)) T (0, 0)) ∧ Two r d w w' := by
  obtain ⟨cp, pv, h1, h2, h3, h4, h5, h6, h7, h8⟩ := h
  have c0 : w.cell? ⟨r, 0, none⟩ = some (.slice (some ⟨g, 0, none⟩) l.length cp) := (blk_cell h1 0).trans rfl
  have c1 : w.cell? ⟨r, 1, none⟩ = some (.int .i64 (i : Int)) := (blk_cell h1 1).trans rfl
  have c2 : w.cell? ⟨r, 2, none⟩ = some (.int .i64 pv) := (blk_cell h1 2).trans rfl
  have f1 : w.frozen? ⟨r, 1, none⟩ = false := blk_frozen h1 1
  have f2 : w.frozen? ⟨r, 2, none⟩ = false := blk_frozen h1 2
  have hne : ¬ cp = i := by omega
  have H1 := Lib.hid h1
  have H7 := Lib.hid h7
  have H8 := Lib.hid h8
  have HD := Lib.hid hd
  have HM := Lib.hid hm
  have H4 := Lib.hid h4
  have H6 := Lib.hid h6
  clear h1 h7 h8 hd hm h4 h6
  go_enter Tryd.func127, Tryd.ntmps127
  go_wp2
  go_quiet (fail)
  go_wp2
  refine still_tail 10 (by kernel_rfl) (by kernel_rfl) ?_
  simp only [List.take_succ_cons, List.take_zero, List.drop_succ_cons, List.drop_zero]
  repeat still_step
  try refine wpStill_nil ?_
  obtain ⟨W, hW⟩ : ∃ W, W = ((w.drewN nq).setCell ⟨r, 2, none⟩ (.int .i64 (-1))).drewN 1 := ⟨_, rfl⟩
  rw [← hW]
  have g1 : W.heap[r]? = some (.cells #[.slice (some ⟨g, 0, none⟩) l.length cp, .int .i64 i, .int .i64 (-1)] 158 (0, 0)) := by
    rw [hW]; exact (Lib.heap_setCell_same (i := 2) (w := w.drewN nq) H1.out (.int .i64 (-1))).trans rfl
  have gg : W.heap[g]? = w.heap[g]? := by rw [hW]; exact Below.heap_setCell (w.drewN nq) _ _ _ (fun e => h2 e)
  have gd : W.heap[d]? = some (.cells cur T (0, 0)) := by rw [hW]; exact (Below.heap_setCell (w.drewN nq) _ _ _ (fun e => hdr e)).trans HD.out
  have g8 : ∀ j x, l[j]? = some x → W.cell? ⟨g, j, none⟩ = some (.int .u8 x.toNat) := fun j x hj => (World.cell?_of_block (a := ⟨g, j, none⟩) gg).trans (H8.out j x hj)
  have tw : Two r d w W := by rw [hW]; exact (((Two.refl r d w).drewN nq).set _ _ (.inl rfl)).drewN 1
  have hm := HM.out
  have hlen : ((l.drop i).take m).length = m := by rw [List.length_take, List.length_drop]; omega
  have hcp := run_copy_row (P := Tryd.prog) W 29 29 3 5 d o n c ⟨g, i, none⟩ (l.length - i) (cp - i) cur T (cellsOf ((l.drop i).take m)) Tryd.underlying29 size_u8 gd
    (by rw [cellsOf_len, hlen, hm, Nat.min_comm])
    (fun j v hj => by
      obtain ⟨x, hx, rfl⟩ := cellsOf_get hj
      rw [Lib.addr_add]
      refine g8 (i + j) x ?_
      rw [List.getElem?_take] at hx
      split at hx
      · rwa [List.getElem?_drop] at hx
      · cases hx)
    (by rw [cellsOf_len, hlen]; omega) cellsOf_one
  rw [cellsOf_len, hlen] at hcp
  obtain ⟨D, hD⟩ := rd_done g1 h2 h3 H4.out H6.out (by obtain ⟨x, hx⟩ := H7.out; exact ⟨x, gg.trans hx⟩) g8 gd hdr hdg (show i + m ≤ l.length by omega) (laidAt cur o ((l.drop i).take m))
  have k1 : (W.setRow d (laidAt cur o ((l.drop i).take m))).heap[r]? = W.heap[r]? := by simp [World.setRow, Array.getElem?_modify, hdr]
  have c1' : (W.setRow d (laidAt cur o ((l.drop i).take m))).cell? ⟨r, 1, none⟩ = some (.int .i64 (i : Int)) := (blk_cell (k1.trans g1) 1).trans rfl
  have f1' : (W.setRow d (laidAt cur o ((l.drop i).take m))).frozen? ⟨r, 1, none⟩ = false := blk_frozen (k1.trans g1) 1
  have hcp' : (Builtin.copy_ #[29, 29] 3 #[.slice (some ⟨d, o, none⟩) n c, .slice (some ⟨g, i, none⟩) (l.length - i) (cp - i)]).run Tryd.prog W = .ok (goInt (m : Nat)) (W.setRow d (laidAt cur o ((l.drop i).take m))) := by
    rw [hcp]; unfold laidAt; rw [cellsOf_len, hlen]
  have tw' := (tw.row (laidAt cur o ((l.drop i).take m))).set ⟨r, 1, none⟩ (.int .i64 ((i + m : Nat) : Int)) (.inl rfl)
  have HR := Lib.hid (And.intro D (And.intro hD tw'))
  obtain ⟨X, hX⟩ : ∃ X, X = laidAt cur o ((l.drop i).take m) := ⟨_, rfl⟩
  rw [← hX] at c1' f1' hcp' HR
  have HX := Lib.hid hX
  have hs : IntKind.i64.wrap ((i : Int) + (m : Int)) = ((i + m : Nat) : Int) := by rw [IntKind.wrap_i64]; have := H6.out; omega
  clear hW g1 gg gd g8 tw hm hlen hcp D hD k1 tw' hX c0 c1 c2 f1 f2
  go_wp2
  go_ret2
  have e : ((i + m : Nat) : Int) = (i : Int) + (m : Int) := by omega
  have HR' := HR.out
  rw [e] at HR'
  rw [← HX.out]
  exact ⟨rfl, HR'.1, HR'.2.1, HR'.2.2⟩
theorem na_read (a : Option Addr) : ∀ W : World, (nilAhead 308 79 (.pointer a) "Read").run Tryd.prog W = .ok (some false) W := fun _ => by kernel_rfl
/-- The reader as an io.Reader. -/
abbrev rdI (r : Nat) : Value := .iface 79 (.pointer (some ⟨r, 0, none⟩))
theorem laidAt_nil (cur : Array Value) : laidAt cur 0 [] = cur := by simp [laidAt, cellsOf]
set_option maxHeartbeats 4000000 in
set_option maxRecDepth 100000 in
/-- ReadNBufUnsafe where there are enough bytes. -/
theorem readNB_some (r g : Nat) (l : List UInt8) (i d n c : Nat) (cur : Array Value) (T : TypeId) (w : World) (h : Rd r g l i w) (hi : i < l.length) (hd : w.heap[d]? = some (.cells cur T (0, 0))) (hdr : d ≠ r) (hdg : d ≠ g) (hn : i + n ≤ l.length) (hfit : n ≤ cur.size) (hc : 0 < c) (hnc : n ≤ c) :
    Calls Tryd.prog 94 #[rdI r, .slice (some ⟨d, 0, none⟩) n c] w fun e w' => e = .returned .nilIface ∧ Rd r g l (i + n) w' ∧ w'.heap[d]? = some (.cells (laidAt cur 0 ((l.drop i).take n)) T (0, 0)) ∧ Two r d w w' := by
  have na := na_read (some ⟨r, 0, none⟩)
  have H := Lib.hid h
  have HD := Lib.hid hd
  have HL := Lib.hid h.len
  have hz : ¬ c = 0 := by omega
  have hw : wrap64 (n : Int) = (n : Int) := IntWalk.wrap64_in _ (by have := HL.out; omega)
  clear h hd
  go_enter Tryd.func94, Tryd.ntmps94
  go_wp2
  refine wp_loop_rounds 1 ?_; rw [rounds_succ]
  go_wp2
  have HDR := Lib.hid hdr
  have HDG := Lib.hid hdg
  go_region_with (go_at_call 127; refine (read_some r g l i d 0 n c n cur T _ ?_ hi ?_ HDR.out HDG.out (by omega) (by omega)).mono ?_; exact H.out.drewN 1; exact HD.out; rintro e_ w1 ⟨rfl, h1, h2, h3⟩; have H1 := Lib.hid (And.intro h1 (And.intro h2 h3)); clear h1 h2 h3)
  go_wp2
  go_ret
  obtain ⟨a1, a2, a3⟩ := H1.out
  exact ⟨rfl, a1, a2, ((Two.refl r d w).drewN 1).trans a3⟩
set_option maxHeartbeats 4000000 in
set_option maxRecDepth 100000 in
/-- ReadNBufUnsafe at the end, for no byte. -/
theorem readNB_none (r g : Nat) (l : List UInt8) (d c : Nat) (ev : Value) (w : World) (h : Rd r g l l.length w) (he : w.cell? ⟨0, 0, none⟩ = some ev) (hc : 0 < c) :
    Calls Tryd.prog 94 #[rdI r, .slice (some ⟨d, 0, none⟩) 0 c] w fun e w' => e = .returned .nilIface ∧ ∃ q, w' = w.drewN q := by
  have na := na_read (some ⟨r, 0, none⟩)
  have H := Lib.hid h
  have HE := Lib.hid he
  have hz : ¬ c = 0 := by omega
  clear h he
  go_enter Tryd.func94, Tryd.ntmps94
  go_wp2
  refine wp_loop_rounds 1 ?_; rw [rounds_succ]
  go_wp2
  go_region_with (go_at_call 127; refine (read_end r g l _ _ _ ev _ ?_ ?_).mono ?_; exact H.out.drewN 1; exact HE.out; rintro e_ w1 ⟨rfl, q1, hq⟩; have HQ := Lib.hid hq; clear hq)
  go_wp2
  go_ret
  exact ⟨rfl, 1 + q1, by rw [HQ.out]; exact World.drewN_drew ..⟩
set_option maxHeartbeats 4000000 in
set_option maxRecDepth 100000 in
/-- ReadNBufUnsafe at the end, for some bytes. -/
theorem readNB_eof (r g : Nat) (l : List UInt8) (d n c : Nat) (te : TypeId) (pe : Value) (w : World) (h : Rd r g l l.length w) (he : w.cell? ⟨0, 0, none⟩ = some (.iface te pe)) (hc : n ≤ c) (hn : 0 < n) :
    Calls Tryd.prog 94 #[rdI r, .slice (some ⟨d, 0, none⟩) n c] w fun e w' => e = .returned (.iface te pe) ∧ ∃ q, w' = w.drewN q := by
  have na := na_read (some ⟨r, 0, none⟩)
  have H := Lib.hid h
  have HE := Lib.hid he
  have hz : ¬ c = 0 := by omega
  have hw0 : ((0 : Int) == (n : Int)) = false := beq_eq_false_iff_ne.mpr (by omega)
  clear h he
  go_enter Tryd.func94, Tryd.ntmps94
  go_wp2
  refine wp_loop_rounds 1 ?_; rw [rounds_succ]
  go_wp2
  go_region_with (go_at_call 127; refine (read_end r g l _ _ _ (.iface te pe) _ ?_ ?_).mono ?_; exact H.out.drewN 1; exact HE.out; rintro e_ w1 ⟨rfl, q1, hq⟩; have HQ := Lib.hid hq; clear hq)
  go_wp2
  go_ret
  exact ⟨rfl, 1 + q1, by rw [HQ.out]; exact World.drewN_drew ..⟩
set_option maxHeartbeats 4000000 in
set_option maxRecDepth 100000 in
/-- ReadNBufUnsafe where there are some bytes, but too few. -/
theorem readNB_few (r g : Nat) (l : List UInt8) (i d n c : Nat) (cur : Array Value) (T : TypeId) (te : TypeId) (pe : Value) (w : World) (h : Rd r g l i w) (hi : i < l.length) (hd : w.heap[d]? = some (.cells cur T (0, 0))) (hdr : d ≠ r) (hdg : d ≠ g) (hn : l.length < i + n) (hfit : n ≤ cur.size) (hnc : n ≤ c)
    (he : w.cell? ⟨0, 0, none⟩ = some (.iface te pe)) (her : 0 ≠ r) (hed : 0 ≠ d) (hn63 : n ≤ 4294967296) :
    Calls Tryd.prog 94 #[rdI r, .slice (some ⟨d, 0, none⟩) n c] w fun e w' => e = .returned (.iface te pe) ∧ Rd r g l l.length w' ∧ Two r d w w' := by
  have na := na_read (some ⟨r, 0, none⟩)
  obtain ⟨m, hm⟩ : ∃ m, m = l.length - i := ⟨_, rfl⟩
  have H := Lib.hid h
  have HD := Lib.hid hd
  have HL := Lib.hid h.len
  have HE := Lib.hid he
  have HI := Lib.hid hi
  have HN := Lib.hid hn
  have HF := Lib.hid hfit
  have hz : ¬ c = 0 := by omega
  have hz2 : ¬ c = m := by omega
  have hz3 : (m : Int) ≤ (n : Int) := by omega
  have hz4 : m ≤ n := by omega
  have hw : wrap64 (m : Int) = (m : Int) := IntWalk.wrap64_in _ (by have := HL.out; omega)
  have q1 : ((m : Int) == (n : Int)) = false := beq_eq_false_iff_ne.mpr (by omega)
  have q2 : ((m : Int) == 0) = false := beq_eq_false_iff_ne.mpr (by omega)
  have HM := Lib.hid hm
  have HDR := Lib.hid hdr
  have HDG := Lib.hid hdg
  have HER := Lib.hid her
  have HED := Lib.hid hed
  clear h hd he hi hn hfit hm hdr hdg her hed hn63
  go_enter Tryd.func94, Tryd.ntmps94
  go_wp2
  refine wp_loop_rounds 2 ?_; rw [rounds_succ]
  go_wp2
  go_region_with (go_at_call 127; refine (read_some r g l i d 0 n c m cur T _ ?_ HI.out ?_ HDR.out HDG.out (by have := HM.out; have := HN.out; have := HI.out; omega) (by have := HF.out; omega)).mono ?_; exact H.out.drewN 1; exact HD.out; rintro e_ w1 ⟨rfl, h1, h2, h3⟩; have H1 := Lib.hid (And.intro h1 (And.intro h2 h3)); clear h1 h2 h3)
  go_wp2
  rw [rounds_succ]
  go_wp2
  have hil : i + m = l.length := by have := HM.out; have := HI.out; omega
  have R1 := Lib.hid (hil ▸ H1.out.1)
  have E1 : w1.cell? ⟨0, 0, none⟩ = some (.iface te pe) := (World.cell?_of_block (a := ⟨0, 0, none⟩) (H1.out.2.2.block _ (World.block_lt_of_cell? w _ HE.out) HER.out HED.out)).trans HE.out
  have HE1 := Lib.hid E1
  have HIL := Lib.hid hil
  clear E1 hil
  go_region_with (go_at_call 127; refine (read_end r g l _ _ _ (.iface te pe) _ ?_ ?_).mono ?_; exact R1.out.drewN 1; exact HE1.out; rintro e_ w2 ⟨rfl, q3, hq⟩; have HQ := Lib.hid hq; clear hq)
  go_wp2
  go_ret
  refine ⟨rfl, ?_, ?_⟩
  · rw [HQ.out]; exact (R1.out.drewN 1).drewN q3
  · rw [HQ.out]; exact (((((Two.refl r d w).drewN 1).trans H1.out.2.2).drewN 1).drewN q3)
/-- ReadUnsafe. -/
theorem readU_some (r g : Nat) (l : List UInt8) (i d n c m : Nat) (cur : Array Value) (T : TypeId) (w : World) (h : Rd r g l i w) (hi : i < l.length) (hd : w.heap[d]? = some (.cells cur T (0, 0))) (hdr : d ≠ r) (hdg : d ≠ g) (hm : m = min n (l.length - i)) (hfit : n ≤ cur.size) :
    Calls Tryd.prog 99 #[rdI r, .slice (some ⟨d, 0, none⟩) n c] w fun e w' => e = .returned (.tuple #[.int .i64 m, .nilIface]) ∧ Rd r g l (i + m) w' ∧ w'.heap[d]? = some (.cells (laidAt cur 0 ((l.drop i).take m)) T (0, 0)) ∧ Two r d w w' := by
  have hC := read_some r g l i d 0 n c m cur T w h hi hd hdr hdg hm (by omega)
  clear h hd hm
  go_enter Tryd.func99, Tryd.ntmps99
  go_wp2_with (go_at_call 127; refine hC.mono ?_; rintro e_ w1 ⟨rfl, h1, h2, h3⟩; have H1 := Lib.hid (And.intro h1 (And.intro h2 h3)); clear h1 h2 h3)
  go_ret2
  exact ⟨rfl, H1.out⟩
theorem readU_end (r g : Nat) (l : List UInt8) (a : Option Addr) (n c : Nat) (ev : Value) (w : World) (h : Rd r g l l.length w) (he : w.cell? ⟨0, 0, none⟩ = some ev) :
    Calls Tryd.prog 99 #[rdI r, .slice a n c] w fun e w' => e = .returned (.tuple #[.int .i64 0, ev]) ∧ ∃ q, w' = w.drewN q := by
  have hC := read_end r g l a n c ev w h he
  clear h he
  go_enter Tryd.func99, Tryd.ntmps99
  go_wp2_with (go_at_call 127; refine hC.mono ?_; rintro e_ w1 ⟨rfl, q1, hq⟩; have HQ := Lib.hid hq; clear hq)
  go_ret2
  exact ⟨rfl, q1, HQ.out⟩
set_option maxHeartbeats 2000000 in
/-- Len. -/
theorem len_any (r g : Nat) (l : List UInt8) (i : Nat) (w : World) (h : Rd r g l i w) :
    Calls Tryd.prog 62 #[.pointer (some ⟨r, 0, none⟩)] w fun e w' => e = .returned (.int .i64 ((l.length - i : Nat) : Int)) ∧ ∃ q, w' = w.drewN q := by
  have hl := h.len
  have hle := h.le
  obtain ⟨cp, pv, h1, h2, h3, h4, h5, h6, h7, h8⟩ := h
  have c0 : w.cell? ⟨r, 0, none⟩ = some (.slice (some ⟨g, 0, none⟩) l.length cp) := (blk_cell h1 0).trans rfl
  have c1 : w.cell? ⟨r, 1, none⟩ = some (.int .i64 (i : Int)) := (blk_cell h1 1).trans rfl
  have e : ((l.length - i : Nat) : Int) = (l.length : Int) - (i : Int) := by omega
  rw [e]
  have hs : IntKind.i64.wrap ((l.length : Int) - (i : Int)) = (l.length : Int) - (i : Int) := IntWalk.i64_in _ (by omega)
  have hs2 : wrap64 ((l.length : Int) - (i : Int)) = (l.length : Int) - (i : Int) := IntWalk.wrap64_in _ (by omega)
  by_cases hz : i = l.length
  · have hz0 : (l.length : Int) - (i : Int) = 0 := by omega
    rw [hz0]
    subst hz
    clear h1 h7 h8 e hs hs2 hz0 hl h4 h6
    go_enter Tryd.func62, Tryd.ntmps62
    go_wp2
    go_quiet (fail)
    go_wp2
    go_ret
    exact ⟨rfl, _, rfl⟩
  · have hlt : i < l.length := by omega
    clear h1 h7 h8 e hl h4 h6
    go_enter Tryd.func62, Tryd.ntmps62
    go_wp2
    go_quiet (fail)
    go_wp2
    go_quiet (fail)
    go_wp2
    go_ret
    exact ⟨rfl, _, World.drewN_drewN ..⟩
/-- NewReader. -/
theorem newReader_any (a : Addr) (n c : Nat) (w : World) :
    Calls Tryd.prog 45 #[.slice (some a) n c] w fun e w' => e = .returned (.pointer (some ⟨w.heap.size, 0, none⟩)) ∧ w' = w.alloc (.cells #[.slice (some a) n c, .int .i64 0, .int .i64 (-1)] 158) := by
  go_enter Tryd.func45, Tryd.ntmps45
  go_wp2
  go_ret
  exact ⟨rfl, rfl⟩
end Go.Proofs.YtgdbeiadlgkedaaDoor
