/- Contracts and plain laws, several texts in one. -/
import Derived.Test.YtgdbeiadlgkedaaGreatDoorProg
import Derived.WalkKit
import Derived.WalkSpells
import Derived.WalkLawsBesides
import Derived.Handy
import Derived.Below
import Derived.Lib.Buffer
import Derived.Lib.BufferOwn
import Derived.Laws.CopyRow
import Derived.Laws.IdiomCopy
import Derived.Deep.QuietTactic
import Derived.BigQuiet
import Derived.StillTailTactics
import Derived.Lib.Hide
import Derived.Deep.RegionWith
import Derived.Lib.Varint
import Derived.Lib.EndianMore
import Derived.LoopTactic
import Derived.Deep.LoopGhost
import Derived.Laws.Bits64b
import Derived.Laws.BitsLemmas
import Derived.Test.YtgdbeiadlgkedaaGreatDoorRows
import Derived.LaidMore
import Derived.Stop.LaidErr
import Derived.ProofKit
namespace Go.Proofs.YtgdbeiadlgkedaaGreatDoor
open Go.RowKit
set_option linter.unusedVariables false
set_option linter.unusedSimpArgs false
theorem blk_lt {w : World} {g : Nat} {o : Obj} (h : w.heap[g]? = some o) : g < w.heap.size := (Array.getElem?_eq_some_iff.1 h).1
theorem blk_cell {w : World} {g : Nat} {cs : Array Value} {T : TypeId} {fr : Nat × Nat} (h : w.heap[g]? = some (.cells cs T fr)) (i : Nat) : w.cell? ⟨g, i, none⟩ = cs[i]? := by simp [World.cell?, h]
theorem blk_frozen {w : World} {g : Nat} {cs : Array Value} {T : TypeId} (h : w.heap[g]? = some (.cells cs T (0, 0))) (i : Nat) : w.frozen? ⟨g, i, none⟩ = false := Lib.frozen_of_heap h i
structure Two (r d : Nat) (w w' : World) : Prop where
  os : w'.os = w.os
  tape : w'.tape = w.tape
  output : w'.output = w.output
  size : w.heap.size ≤ w'.heap.size
  block : ∀ k, k < w.heap.size → k ≠ r → k ≠ d → w'.heap[k]? = w.heap[k]?
theorem Two.refl (r d : Nat) (w : World) : Two r d w w := ⟨rfl, rfl, rfl, Nat.le_refl _, fun _ _ _ _ => rfl⟩
theorem Two.trans {r d : Nat} {w w1 w2 : World} (h : Two r d w w1) (k : Two r d w1 w2) : Two r d w w2 :=
  ⟨k.os.trans h.os, k.tape.trans h.tape, k.output.trans h.output, Nat.le_trans h.size k.size, fun i hi a b => (k.block i (Nat.lt_of_lt_of_le hi h.size) a b).trans (h.block i hi a b)⟩
theorem Two.drewN {r d : Nat} {w w' : World} (h : Two r d w w') (n : Nat) : Two r d w (w'.drewN n) := ⟨h.os, h.tape, h.output, h.size, h.block⟩
theorem Two.set {r d : Nat} {w w' : World} (h : Two r d w w') (a : Addr) (v : Value) (ha : a.block = r ∨ a.block = d) : Two r d w (w'.setCell a v) :=
  ⟨h.os, h.tape, h.output, by simpa [World.setCell] using h.size, fun k hk h1 h2 => (Below.heap_setCell _ _ _ _ (by rcases ha with e | e <;> rw [e] <;> first | exact fun e => h1 e | exact fun e => h2 e | exact fun e => h1 e.symm | exact fun e => h2 e.symm)).trans (h.block k hk h1 h2)⟩
theorem Two.row {r d : Nat} {w w' : World} (h : Two r d w w') (cs : Array Value) : Two r d w (w'.setRow d cs) :=
  ⟨h.os, h.tape, h.output, by simpa [World.setRow] using h.size, fun k hk h1 h2 => by
    have := h.block k hk h1 h2
    simp only [World.setRow, Array.getElem?_modify, if_neg (fun e => h2 (Eq.symm e) : ¬ d = k)]
    exact this⟩
theorem Two.grown {r d : Nat} {w w1 w2 : World} (h : w.grownBy w1 (some r)) (k : Two r d w1 w2) (hd : w.heap.size ≤ d) : w.grownBy w2 (some r) :=
  ⟨k.os.trans h.os, k.tape.trans h.tape, k.output.trans h.output, Nat.le_trans h.size k.size, fun i hi hr => (k.block i (Nat.lt_of_lt_of_le hi h.size) (fun e => hr (by rw [e])) (by omega)).trans (h.block i hi hr)⟩
def Rd (r g : Nat) (l : List UInt8) (i : Nat) (w : World) : Prop :=
  ∃ (c : Nat) (pv : Int), w.heap[r]? = some (.cells #[.slice (some ⟨g, 0, none⟩) l.length c, .int .i64 i, .int .i64 pv] 196 (0, 0)) ∧ g ≠ r ∧ l.length ≤ c ∧ c ≤ 9223372036854775807 ∧ i ≤ l.length ∧ l.length ≤ 4294967296 ∧ (∃ o, w.heap[g]? = some o) ∧ ∀ j x, l[j]? = some x → w.cell? ⟨g, j, none⟩ = some (.int .u8 x.toNat)
theorem Rd.ltg {r g : Nat} {l : List UInt8} {i : Nat} {w : World} (h : Rd r g l i w) : g < w.heap.size := by obtain ⟨_, _, _, _, _, _, _, _, ⟨_, h⟩, _⟩ := h; exact blk_lt h
theorem Rd.lt {r g : Nat} {l : List UInt8} {i : Nat} {w : World} (h : Rd r g l i w) : r < w.heap.size := by obtain ⟨_, _, h, _⟩ := h; exact blk_lt h
theorem Rd.le {r g : Nat} {l : List UInt8} {i : Nat} {w : World} (h : Rd r g l i w) : i ≤ l.length := by obtain ⟨_, _, _, _, _, _, h, _⟩ := h; exact h
theorem Rd.len {r g : Nat} {l : List UInt8} {i : Nat} {w : World} (h : Rd r g l i w) : l.length ≤ 4294967296 := by obtain ⟨_, _, _, _, _, _, _, h, _⟩ := h; exact h
theorem Rd.kept {r g : Nat} {l : List UInt8} {i : Nat} {w w' : World} (h : Rd r g l i w) (hk : ∀ k, k < w.heap.size → w'.heap[k]? = w.heap[k]?) : Rd r g l i w' := by
  obtain ⟨c, pv, h1, h2, h3, h4, h5, h6, ⟨o, h7⟩, h8⟩ := h
  exact ⟨c, pv, (hk r (blk_lt h1)).trans h1, h2, h3, h4, h5, h6, ⟨o, (hk g (blk_lt h7)).trans h7⟩, fun j x hj => (World.cell?_of_block (a := ⟨g, j, none⟩) (hk g (blk_lt h7))).trans (h8 j x hj)⟩
theorem Rd.drewN {r g : Nat} {l : List UInt8} {i : Nat} {w : World} (h : Rd r g l i w) (n : Nat) : Rd r g l i (w.drewN n) := h.kept fun _ _ => rfl
theorem Rd.alloc {r g : Nat} {l : List UInt8} {i : Nat} {w : World} (h : Rd r g l i w) (o : Obj) : Rd r g l i (w.alloc o) := h.kept fun k hk => Below.heap_alloc w o k hk
theorem Rd.below {r g : Nat} {l : List UInt8} {i : Nat} {w w' : World} (h : Rd r g l i w) (hb : Below w.heap.size w w') : Rd r g l i w' := h.kept fun k hk => hb.block k hk
def cellsOf (l : List UInt8) : List Value := l.map fun b => .int .u8 b.toNat
theorem cellsOf_get {l : List UInt8} {j : Nat} {v : Value} (h : (cellsOf l)[j]? = some v) : ∃ x, l[j]? = some x ∧ v = .int .u8 x.toNat := by
  unfold cellsOf at h
  rw [List.getElem?_map] at h
  cases hx : l[j]? with
  | none => rw [hx] at h; cases h
  | some x => rw [hx] at h; exact ⟨x, rfl, (Option.some.inj h).symm⟩
theorem cellsOf_one {l : List UInt8} : ∀ v ∈ cellsOf l, v.oneCell' = true := by
  intro v hv
  unfold cellsOf at hv
  obtain ⟨x, _, rfl⟩ := List.mem_map.1 hv
  rfl
theorem cellsOf_len (l : List UInt8) : (cellsOf l).length = l.length := by simp [cellsOf]
def laidAt (cur : Array Value) (o : Nat) (l : List UInt8) : Array Value := (cur.toList.take o ++ cellsOf l ++ cur.toList.drop (o + (cellsOf l).length)).toArray
theorem size_u8 : (Tryz.prog.info? 5).map (·.size) = some 1 := by kernel_rfl
set_option maxHeartbeats 2000000 in
theorem read_end (r g : Nat) (l : List UInt8) (a : Option Addr) (n c : Nat) (ev : Value) (w : World) (h : Rd r g l l.length w) (he : w.cell? ⟨2, 0, none⟩ = some ev) :
    Calls Tryz.prog 132 #[.pointer (some ⟨r, 0, none⟩), .slice a n c] w fun e w' => e = .returned (.tuple #[.int .i64 0, ev]) ∧ ∃ q, w' = w.drewN q := by
  obtain ⟨cp, pv, h1, h2, h3, h4, h5, h6, h7, h8⟩ := h
  have c0 : w.cell? ⟨r, 0, none⟩ = some (.slice (some ⟨g, 0, none⟩) l.length cp) := (blk_cell h1 0).trans rfl
  have c1 : w.cell? ⟨r, 1, none⟩ = some (.int .i64 (l.length : Int)) := (blk_cell h1 1).trans rfl
  clear h1 h7 h8
  go_enter Tryz.func132, Tryz.ntmps132
  go_wp2
  go_quiet (fail)
  go_wp2
  go_quiet (fail)
  go_wp2
  go_ret2
  exact ⟨rfl, _, World.drewN_drewN ..⟩
theorem rd_done {r g d m : Nat} {l : List UInt8} {i cp : Nat} {W : World} {cur : Array Value} {T : TypeId}
    (h1 : W.heap[r]? = some (.cells #[.slice (some ⟨g, 0, none⟩) l.length cp, .int .i64 i, .int .i64 (-1)] 196 (0, 0))) (h2 : g ≠ r) (h3 : l.length ≤ cp) (h4 : cp ≤ 9223372036854775807) (h6 : l.length ≤ 4294967296)
    (h7 : ∃ o, W.heap[g]? = some o) (h8 : ∀ j x, l[j]? = some x → W.cell? ⟨g, j, none⟩ = some (.int .u8 x.toNat))
    (hd : W.heap[d]? = some (.cells cur T (0, 0))) (hdr : d ≠ r) (hdg : d ≠ g) (hm : i + m ≤ l.length) (cs : Array Value) :
    Rd r g l (i + m) ((W.setRow d cs).setCell ⟨r, 1, none⟩ (.int .i64 ((i + m : Nat) : Int))) ∧ ((W.setRow d cs).setCell ⟨r, 1, none⟩ (.int .i64 ((i + m : Nat) : Int))).heap[d]? = some (.cells cs T (0, 0)) := by
  have a1 : (W.setRow d cs).heap[r]? = W.heap[r]? := by simp [World.setRow, Array.getElem?_modify, hdr]
  have a2 : (W.setRow d cs).heap[g]? = W.heap[g]? := by simp [World.setRow, Array.getElem?_modify, hdg]
  have a3 : (W.setRow d cs).heap[d]? = some (.cells cs T (0, 0)) := by simp [World.setRow, Array.getElem?_modify, hd]
  have b1 := Lib.heap_setCell_same (i := 1) (a1.trans h1) (.int .i64 ((i + m : Nat) : Int))
  obtain ⟨x, h7⟩ := h7
  have b2 : ((W.setRow d cs).setCell ⟨r, 1, none⟩ (.int .i64 ((i + m : Nat) : Int))).heap[g]? = W.heap[g]? := (Below.heap_setCell _ _ _ _ (fun e => h2 e)).trans a2
  refine ⟨⟨cp, -1, b1.trans rfl, h2, h3, h4, hm, h6, ⟨x, b2.trans h7⟩, fun j y hj => (World.cell?_of_block (a := ⟨g, j, none⟩) b2).trans (h8 j y hj)⟩, ?_⟩
  exact (Below.heap_setCell _ _ _ _ (fun e => hdr e)).trans a3
theorem still_tail {P : Program} {id : Nat} {Q : Exit → Act → World → Prop} {a : Act} {w : World} {l : List Oper} (n : Nat) (hm : P.follows .mixedOrders = true) (hB : Region.lexTailB .any l.toArray n = true)
    (h : wpStill P l.toArray (w.drewN 1) (fun a' => wpList P l.toArray Q (l.drop n) a' (w.drewN 1)) (l.take n) a) : (Code.region id l.toArray true).wp P Q a w :=
  wp_region_still_tail n hm hB h
set_option maxHeartbeats 2000000 in
set_option maxRecDepth 100000 in
theorem read_some (r g : Nat) (l : List UInt8) (i d o n c m : Nat) (cur : Array Value) (T : TypeId) (w : World) (h : Rd r g l i w) (hi : i < l.length) (hd : w.heap[d]? = some (.cells cur T (0, 0))) (hdr : d ≠ r) (hdg : d ≠ g) (hm : m = min n (l.length - i)) (hfit : o + n ≤ cur.size) :
    Calls Tryz.prog 132 #[.pointer (some ⟨r, 0, none⟩), .slice (some ⟨d, o, none⟩) n c] w fun e w' => e = .returned (.tuple #[.int .i64 m, .nilIface]) ∧ Rd r g l (i + m) w' ∧ w'.heap[d]? = some (.cells (laidAt cur o ((l.drop i).take m)) T (0, 0)) ∧ Two r d w w' := by
  obtain ⟨cp, pv, h1, h2, h3, h4, h5, h6, h7, h8⟩ := h
  have c0 : w.cell? ⟨r, 0, none⟩ = some (.slice (some ⟨g, 0, none⟩) l.length cp) := (blk_cell h1 0).trans rfl
  have c1 : w.cell? ⟨r, 1, none⟩ = some (.int .i64 (i : Int)) := (blk_cell h1 1).trans rfl
  have c2 : w.cell? ⟨r, 2, none⟩ = some (.int .i64 pv) := (blk_cell h1 2).trans rfl
  have f1 : w.frozen? ⟨r, 1, none⟩ = false := blk_frozen h1 1
  have f2 : w.frozen? ⟨r, 2, none⟩ = false := blk_frozen h1 2
  have hne : ¬ cp = i := by omega
  have H1 := Lib.hid h1
  have H7 := Lib.hid h7
  have H8 := Lib.hid h8
  have HD := Lib.hid hd
  have HM := Lib.hid hm
  have H4 := Lib.hid h4
  have H6 := Lib.hid h6
  clear h1 h7 h8 hd hm h4 h6
  go_enter Tryz.func132, Tryz.ntmps132
  go_wp2
  go_quiet (fail)
  go_wp2
  refine still_tail 10 (by kernel_rfl) (by kernel_rfl) ?_
  simp only [List.take_succ_cons, List.take_zero, List.drop_succ_cons, List.drop_zero]
  repeat still_step
  try refine wpStill_nil ?_
  obtain ⟨W, hW⟩ : ∃ W, W = ((w.drewN nq).setCell ⟨r, 2, none⟩ (.int .i64 (-1))).drewN 1 := ⟨_, rfl⟩
  rw [← hW]
  have g1 : W.heap[r]? = some (.cells #[.slice (some ⟨g, 0, none⟩) l.length cp, .int .i64 i, .int .i64 (-1)] 196 (0, 0)) := by
    rw [hW]; exact (Lib.heap_setCell_same (i := 2) (w := w.drewN nq) H1.out (.int .i64 (-1))).trans rfl
  have gg : W.heap[g]? = w.heap[g]? := by rw [hW]; exact Below.heap_setCell (w.drewN nq) _ _ _ (fun e => h2 e)
  have gd : W.heap[d]? = some (.cells cur T (0, 0)) := by rw [hW]; exact (Below.heap_setCell (w.drewN nq) _ _ _ (fun e => hdr e)).trans HD.out
  have g8 : ∀ j x, l[j]? = some x → W.cell? ⟨g, j, none⟩ = some (.int .u8 x.toNat) := fun j x hj => (World.cell?_of_block (a := ⟨g, j, none⟩) gg).trans (H8.out j x hj)
  have tw : Two r d w W := by rw [hW]; exact (((Two.refl r d w).drewN nq).set _ _ (.inl rfl)).drewN 1
  have hm := HM.out
  have hlen : ((l.drop i).take m).length = m := by rw [List.length_take, List.length_drop]; omega
  have hcp := run_copy_row (P := Tryz.prog) W 77 77 3 5 d o n c ⟨g, i, none⟩ (l.length - i) (cp - i) cur T (cellsOf ((l.drop i).take m)) Tryz.underlying77 size_u8 gd
    (by rw [cellsOf_len, hlen, hm, Nat.min_comm])
    (fun j v hj => by
      obtain ⟨x, hx, rfl⟩ := cellsOf_get hj
      rw [Lib.addr_add]
      refine g8 (i + j) x ?_
      rw [List.getElem?_take] at hx
      split at hx
      · rwa [List.getElem?_drop] at hx
      · cases hx)
    (by rw [cellsOf_len, hlen]; omega) cellsOf_one
  rw [cellsOf_len, hlen] at hcp
  obtain ⟨D, hD⟩ := rd_done g1 h2 h3 H4.out H6.out (by obtain ⟨x, hx⟩ := H7.out; exact ⟨x, gg.trans hx⟩) g8 gd hdr hdg (show i + m ≤ l.length by omega) (laidAt cur o ((l.drop i).take m))
  have k1 : (W.setRow d (laidAt cur o ((l.drop i).take m))).heap[r]? = W.heap[r]? := by simp [World.setRow, Array.getElem?_modify, hdr]
  have c1' : (W.setRow d (laidAt cur o ((l.drop i).take m))).cell? ⟨r, 1, none⟩ = some (.int .i64 (i : Int)) := (blk_cell (k1.trans g1) 1).trans rfl
  have f1' : (W.setRow d (laidAt cur o ((l.drop i).take m))).frozen? ⟨r, 1, none⟩ = false := blk_frozen (k1.trans g1) 1
  have hcp' : (Builtin.copy_ #[77, 77] 3 #[.slice (some ⟨d, o, none⟩) n c, .slice (some ⟨g, i, none⟩) (l.length - i) (cp - i)]).run Tryz.prog W = .ok (goInt (m : Nat)) (W.setRow d (laidAt cur o ((l.drop i).take m))) := by
    rw [hcp]; unfold laidAt; rw [cellsOf_len, hlen]
  have tw' := (tw.row (laidAt cur o ((l.drop i).take m))).set ⟨r, 1, none⟩ (.int .i64 ((i + m : Nat) : Int)) (.inl rfl)
  have HR := Lib.hid (And.intro D (And.intro hD tw'))
  obtain ⟨X, hX⟩ : ∃ X, X = laidAt cur o ((l.drop i).take m) := ⟨_, rfl⟩
  rw [← hX] at c1' f1' hcp' HR
  have HX := Lib.hid hX
  have hs : IntKind.i64.wrap ((i : Int) + (m : Int)) = ((i + m : Nat) : Int) := by rw [IntKind.wrap_i64]; have := H6.out; omega
  clear hW g1 gg gd g8 tw hm hlen hcp D hD k1 tw' hX c0 c1 c2 f1 f2
  go_wp2
  go_ret2
  have e : ((i + m : Nat) : Int) = (i : Int) + (m : Int) := by omega
  have HR' := HR.out
  rw [e] at HR'
  rw [← HX.out]
  exact ⟨rfl, HR'.1, HR'.2.1, HR'.2.2⟩
theorem na_read (a : Option Addr) : ∀ W : World, (nilAhead 367 91 (.pointer a) "Read").run Tryz.prog W = .ok (some false) W := fun _ => by kernel_rfl
abbrev rdI (r : Nat) : Value := .iface 91 (.pointer (some ⟨r, 0, none⟩))
set_option maxHeartbeats 4000000 in
set_option maxRecDepth 100000 in
theorem readNB_some (r g : Nat) (l : List UInt8) (i d n c : Nat) (cur : Array Value) (T : TypeId) (w : World) (h : Rd r g l i w) (hi : i < l.length) (hd : w.heap[d]? = some (.cells cur T (0, 0))) (hdr : d ≠ r) (hdg : d ≠ g) (hn : i + n ≤ l.length) (hfit : n ≤ cur.size) (hc : 0 < c) (hnc : n ≤ c) :
    Calls Tryz.prog 106 #[rdI r, .slice (some ⟨d, 0, none⟩) n c] w fun e w' => e = .returned .nilIface ∧ Rd r g l (i + n) w' ∧ w'.heap[d]? = some (.cells (laidAt cur 0 ((l.drop i).take n)) T (0, 0)) ∧ Two r d w w' := by
  have na := na_read (some ⟨r, 0, none⟩)
  have H := Lib.hid h
  have HD := Lib.hid hd
  have HL := Lib.hid h.len
  have hz : ¬ c = 0 := by omega
  have hw : wrap64 (n : Int) = (n : Int) := IntWalk.wrap64_in _ (by have := HL.out; omega)
  clear h hd
  go_enter Tryz.func106, Tryz.ntmps106
  go_wp2
  refine wp_loop_rounds 1 ?_; rw [rounds_succ]
  go_wp2
  have HDR := Lib.hid hdr
  have HDG := Lib.hid hdg
  go_region_with (go_at_call 132; refine (read_some r g l i d 0 n c n cur T _ ?_ hi ?_ HDR.out HDG.out (by omega) (by omega)).mono ?_; exact H.out.drewN 1; exact HD.out; rintro e_ w1 ⟨rfl, h1, h2, h3⟩; have H1 := Lib.hid (And.intro h1 (And.intro h2 h3)); clear h1 h2 h3)
  go_wp2
  go_ret
  obtain ⟨a1, a2, a3⟩ := H1.out
  exact ⟨rfl, a1, a2, ((Two.refl r d w).drewN 1).trans a3⟩
set_option maxHeartbeats 4000000 in
set_option maxRecDepth 100000 in
theorem readNB_eof (r g : Nat) (l : List UInt8) (d n c : Nat) (te : TypeId) (pe : Value) (w : World) (h : Rd r g l l.length w) (he : w.cell? ⟨2, 0, none⟩ = some (.iface te pe)) (hc : n ≤ c) (hn : 0 < n) :
    Calls Tryz.prog 106 #[rdI r, .slice (some ⟨d, 0, none⟩) n c] w fun e w' => e = .returned (.iface te pe) ∧ ∃ q, w' = w.drewN q := by
  have na := na_read (some ⟨r, 0, none⟩)
  have H := Lib.hid h
  have HE := Lib.hid he
  have hz : ¬ c = 0 := by omega
  have hw0 : ((0 : Int) == (n : Int)) = false := beq_eq_false_iff_ne.mpr (by omega)
  clear h he
  go_enter Tryz.func106, Tryz.ntmps106
  go_wp2
  refine wp_loop_rounds 1 ?_; rw [rounds_succ]
  go_wp2
  go_region_with (go_at_call 132; refine (read_end r g l _ _ _ (.iface te pe) _ ?_ ?_).mono ?_; exact H.out.drewN 1; exact HE.out; rintro e_ w1 ⟨rfl, q1, hq⟩; have HQ := Lib.hid hq; clear hq)
  go_wp2
  go_ret
  exact ⟨rfl, 1 + q1, by rw [HQ.out]; exact World.drewN_drew ..⟩
set_option maxHeartbeats 4000000 in
set_option maxRecDepth 100000 in
theorem readNB_few (r g : Nat) (l : List UInt8) (i d n c : Nat) (cur : Array Value) (T : TypeId) (te : TypeId) (pe : Value) (w : World) (h : Rd r g l i w) (hi : i < l.length) (hd : w.heap[d]? = some (.cells cur T (0, 0))) (hdr : d ≠ r) (hdg : d ≠ g) (hn : l.length < i + n) (hfit : n ≤ cur.size) (hnc : n ≤ c)
    (he : w.cell? ⟨2, 0, none⟩ = some (.iface te pe)) (her : 2 ≠ r) (hed : 2 ≠ d) (hn63 : n ≤ 4294967296) :
    Calls Tryz.prog 106 #[rdI r, .slice (some ⟨d, 0, none⟩) n c] w fun e w' => e = .returned (.iface te pe) ∧ Rd r g l l.length w' ∧ Two r d w w' := by
  have na := na_read (some ⟨r, 0, none⟩)
  obtain ⟨m, hm⟩ : ∃ m, m = l.length - i := ⟨_, rfl⟩
  have H := Lib.hid h
  have HD := Lib.hid hd
  have HL := Lib.hid h.len
  have HE := Lib.hid he
  have HI := Lib.hid hi
  have HN := Lib.hid hn
  have HF := Lib.hid hfit
  have hz : ¬ c = 0 := by omega
  have hz2 : ¬ c = m := by omega
  have hz3 : (m : Int) ≤ (n : Int) := by omega
  have hz4 : m ≤ n := by omega
  have hw : wrap64 (m : Int) = (m : Int) := IntWalk.wrap64_in _ (by have := HL.out; omega)
  have q1 : ((m : Int) == (n : Int)) = false := beq_eq_false_iff_ne.mpr (by omega)
  have q2 : ((m : Int) == 0) = false := beq_eq_false_iff_ne.mpr (by omega)
  have HM := Lib.hid hm
  have HDR := Lib.hid hdr
  have HDG := Lib.hid hdg
  have HER := Lib.hid her
  have HED := Lib.hid hed
  clear h hd he hi hn hfit hm hdr hdg her hed hn63
  go_enter Tryz.func106, Tryz.ntmps106
  go_wp2
  refine wp_loop_rounds 2 ?_; rw [rounds_succ]
  go_wp2
  go_region_with (go_at_call 132; refine (read_some r g l i d 0 n c m cur T _ ?_ HI.out ?_ HDR.out HDG.out (by have := HM.out; have := HN.out; have := HI.out; omega) (by have := HF.out; omega)).mono ?_; exact H.out.drewN 1; exact HD.out; rintro e_ w1 ⟨rfl, h1, h2, h3⟩; have H1 := Lib.hid (And.intro h1 (And.intro h2 h3)); clear h1 h2 h3)
  go_wp2
  rw [rounds_succ]
  go_wp2
  have hil : i + m = l.length := by have := HM.out; have := HI.out; omega
  have R1 := Lib.hid (hil ▸ H1.out.1)
  have E1 : w1.cell? ⟨2, 0, none⟩ = some (.iface te pe) := (World.cell?_of_block (a := ⟨2, 0, none⟩) (H1.out.2.2.block _ (World.block_lt_of_cell? w _ HE.out) HER.out HED.out)).trans HE.out
  have HE1 := Lib.hid E1
  have HIL := Lib.hid hil
  clear E1 hil
  go_region_with (go_at_call 132; refine (read_end r g l _ _ _ (.iface te pe) _ ?_ ?_).mono ?_; exact R1.out.drewN 1; exact HE1.out; rintro e_ w2 ⟨rfl, q3, hq⟩; have HQ := Lib.hid hq; clear hq)
  go_wp2
  go_ret
  refine ⟨rfl, ?_, ?_⟩
  · rw [HQ.out]; exact (R1.out.drewN 1).drewN q3
  · rw [HQ.out]; exact (((((Two.refl r d w).drewN 1).trans H1.out.2.2).drewN 1).drewN q3)
theorem readU_some (r g : Nat) (l : List UInt8) (i d n c m : Nat) (cur : Array Value) (T : TypeId) (w : World) (h : Rd r g l i w) (hi : i < l.length) (hd : w.heap[d]? = some (.cells cur T (0, 0))) (hdr : d ≠ r) (hdg : d ≠ g) (hm : m = min n (l.length - i)) (hfit : n ≤ cur.size) :
    Calls Tryz.prog 111 #[rdI r, .slice (some ⟨d, 0, none⟩) n c] w fun e w' => e = .returned (.tuple #[.int .i64 m, .nilIface]) ∧ Rd r g l (i + m) w' ∧ w'.heap[d]? = some (.cells (laidAt cur 0 ((l.drop i).take m)) T (0, 0)) ∧ Two r d w w' := by
  have hC := read_some r g l i d 0 n c m cur T w h hi hd hdr hdg hm (by omega)
  clear h hd hm
  go_enter Tryz.func111, Tryz.ntmps111
  go_wp2_with (go_at_call 132; refine hC.mono ?_; rintro e_ w1 ⟨rfl, h1, h2, h3⟩; have H1 := Lib.hid (And.intro h1 (And.intro h2 h3)); clear h1 h2 h3)
  go_ret2
  exact ⟨rfl, H1.out⟩
theorem readU_end (r g : Nat) (l : List UInt8) (a : Option Addr) (n c : Nat) (ev : Value) (w : World) (h : Rd r g l l.length w) (he : w.cell? ⟨2, 0, none⟩ = some ev) :
    Calls Tryz.prog 111 #[rdI r, .slice a n c] w fun e w' => e = .returned (.tuple #[.int .i64 0, ev]) ∧ ∃ q, w' = w.drewN q := by
  have hC := read_end r g l a n c ev w h he
  clear h he
  go_enter Tryz.func111, Tryz.ntmps111
  go_wp2_with (go_at_call 132; refine hC.mono ?_; rintro e_ w1 ⟨rfl, q1, hq⟩; have HQ := Lib.hid hq; clear hq)
  go_ret2
  exact ⟨rfl, q1, HQ.out⟩
set_option maxHeartbeats 2000000 in
theorem len_any (r g : Nat) (l : List UInt8) (i : Nat) (w : World) (h : Rd r g l i w) :
    Calls Tryz.prog 44 #[.pointer (some ⟨r, 0, none⟩)] w fun e w' => e = .returned (.int .i64 ((l.length - i : Nat) : Int)) ∧ ∃ q, w' = w.drewN q := by
  have hl := h.len
  have hle := h.le
  obtain ⟨cp, pv, h1, h2, h3, h4, h5, h6, h7, h8⟩ := h
  have c0 : w.cell? ⟨r, 0, none⟩ = some (.slice (some ⟨g, 0, none⟩) l.length cp) := (blk_cell h1 0).trans rfl
  have c1 : w.cell? ⟨r, 1, none⟩ = some (.int .i64 (i : Int)) := (blk_cell h1 1).trans rfl
  have e : ((l.length - i : Nat) : Int) = (l.length : Int) - (i : Int) := by omega
  rw [e]
  have hs : IntKind.i64.wrap ((l.length : Int) - (i : Int)) = (l.length : Int) - (i : Int) := IntWalk.i64_in _ (by omega)
  have hs2 : wrap64 ((l.length : Int) - (i : Int)) = (l.length : Int) - (i : Int) := IntWalk.wrap64_in _ (by omega)
  by_cases hz : i = l.length
  · have hz0 : (l.length : Int) - (i : Int) = 0 := by omega
    rw [hz0]
    subst hz
    clear h1 h7 h8 e hs hs2 hz0 hl h4 h6
    go_enter Tryz.func44, Tryz.ntmps44
    go_wp2
    go_quiet (fail)
    go_wp2
    go_ret
    exact ⟨rfl, _, rfl⟩
  · have hlt : i < l.length := by omega
    clear h1 h7 h8 e hl h4 h6
    go_enter Tryz.func44, Tryz.ntmps44
    go_wp2
    go_quiet (fail)
    go_wp2
    go_quiet (fail)
    go_wp2
    go_ret
    exact ⟨rfl, _, World.drewN_drewN ..⟩
theorem newReader_any (a : Addr) (n c : Nat) (w : World) :
    Calls Tryz.prog 42 #[.slice (some a) n c] w fun e w' => e = .returned (.pointer (some ⟨w.heap.size, 0, none⟩)) ∧ w' = w.alloc (.cells #[.slice (some a) n c, .int .i64 0, .int .i64 (-1)] 196) := by
  go_enter Tryz.func42, Tryz.ntmps42
  go_wp2
  go_ret
  exact ⟨rfl, rfl⟩
end Go.Proofs.YtgdbeiadlgkedaaGreatDoor
namespace Go.Proofs.YtgdbeiadlgkedaaGreatDoor
open Go.Lib
def vrd : Nat → Nat → List UInt8 → Option (Nat × Nat)
  | _, _, [] => none
  | i, acc, c :: r =>
    if 9 < i ∨ (i = 9 ∧ 1 < c.toNat) then none
    else if c.toNat < 128 then some (acc + c.toNat * 2 ^ (7 * i), i + 1)
    else vrd (i + 1) (acc + (c.toNat % 128) * 2 ^ (7 * i)) r
theorem vrd_bad {i acc : Nat} {c : UInt8} {r : List UInt8} (h : 9 < i ∨ (i = 9 ∧ 1 < c.toNat)) : vrd i acc (c :: r) = none := by rw [vrd, if_pos h]
theorem vrd_end {i acc : Nat} {c : UInt8} {r : List UInt8} (h : ¬ (9 < i ∨ (i = 9 ∧ 1 < c.toNat))) (h1 : c.toNat < 128) : vrd i acc (c :: r) = some (acc + c.toNat * 2 ^ (7 * i), i + 1) := by rw [vrd, if_neg h, if_pos h1]
theorem vrd_on {i acc : Nat} {c : UInt8} {r : List UInt8} (h : ¬ (9 < i ∨ (i = 9 ∧ 1 < c.toNat))) (h1 : ¬ c.toNat < 128) : vrd i acc (c :: r) = vrd (i + 1) (acc + (c.toNat % 128) * 2 ^ (7 * i)) r := by rw [vrd, if_neg h, if_neg h1]
theorem pow7 (i : Nat) : 2 ^ (7 * (i + 1)) = 128 * 2 ^ (7 * i) := by rw [Nat.mul_add, Nat.pow_add]; omega
theorem vrd_facts : ∀ (l : List UInt8) (i acc v k : Nat), acc < 2 ^ (7 * i) → vrd i acc l = some (v, k) → v < 18446744073709551616 ∧ i < k ∧ k ≤ i + l.length ∧ k ≤ 10
  | [], _, _, _, _, _, h => by simp [vrd] at h
  | c :: r, i, acc, v, k, ha, h => by
    by_cases hb : 9 < i ∨ (i = 9 ∧ 1 < c.toNat)
    · rw [vrd_bad hb] at h; cases h
    · have hc := c.toNat_lt
      by_cases h1 : c.toNat < 128
      · rw [vrd_end hb h1] at h
        simp only [Option.some.injEq, Prod.mk.injEq] at h
        obtain ⟨rfl, rfl⟩ := h
        refine ⟨?_, by omega, by simp only [List.length_cons]; omega, by omega⟩
        by_cases h9 : i = 9
        · subst h9
          have : c.toNat ≤ 1 := by omega
          have e : 2 ^ (7 * 9) = 9223372036854775808 := by decide
          rw [e] at ha ⊢
          have : c.toNat * 9223372036854775808 ≤ 1 * 9223372036854775808 := Nat.mul_le_mul_right _ this
          omega
        · have hi : i ≤ 8 := by omega
          have h2 : 2 ^ (7 * (i + 1)) ≤ 2 ^ (7 * 9) := Nat.pow_le_pow_right (by omega) (by omega)
          rw [pow7] at h2
          have e : 2 ^ (7 * 9) = 9223372036854775808 := by decide
          rw [e] at h2
          have : c.toNat * 2 ^ (7 * i) ≤ 127 * 2 ^ (7 * i) := Nat.mul_le_mul_right _ (by omega)
          omega
      · rw [vrd_on hb h1] at h
        have ha' : acc + (c.toNat % 128) * 2 ^ (7 * i) < 2 ^ (7 * (i + 1)) := by
          rw [pow7]
          have : c.toNat % 128 * 2 ^ (7 * i) ≤ 127 * 2 ^ (7 * i) := Nat.mul_le_mul_right _ (by omega)
          omega
        obtain ⟨p1, p2, p3, p4⟩ := vrd_facts r (i + 1) _ v k ha' h
        exact ⟨p1, by omega, by simp only [List.length_cons]; omega, p4⟩
end Go.Proofs.YtgdbeiadlgkedaaGreatDoor
namespace Go.Proofs.YtgdbeiadlgkedaaGreatDoor
open Go.RowKit
set_option linter.unusedVariables false
set_option linter.unusedSimpArgs false
def Err (v : Value) (w : World) : Prop := ∃ (a : Addr) (s : ByteArray), v = .iface 234 (.pointer (some a)) ∧ w.cell? a = some (.string s) ∧ s.data.toList ≠ []
structure Env (B : Nat) (pe pl : Addr) (w : World) : Prop where
  eof : w.cell? ⟨2, 0, none⟩ = some (.iface 234 (.pointer (some pe)))
  long : w.cell? ⟨3, 0, none⟩ = some (.iface 234 (.pointer (some pl)))
  te : ∃ s : ByteArray, w.cell? pe = some (.string s) ∧ s.data.toList ≠ []
  tl : ∃ s : ByteArray, w.cell? pl = some (.string s) ∧ s.data.toList ≠ []
  b0 : 2 < B
  b1 : 3 < B
  b2 : pe.block < B
  b3 : pl.block < B
theorem Env.kept {B : Nat} {pe pl : Addr} {w w' : World} (h : Env B pe pl w) (hk : ∀ k, k < B → w'.heap[k]? = w.heap[k]?) : Env B pe pl w' where
  eof := (World.cell?_of_block (a := ⟨2, 0, none⟩) (hk _ h.b0)).trans h.eof
  long := (World.cell?_of_block (a := ⟨3, 0, none⟩) (hk _ h.b1)).trans h.long
  te := by obtain ⟨s, hs, hn⟩ := h.te; exact ⟨s, (World.cell?_of_block (a := pe) (hk _ h.b2)).trans hs, hn⟩
  tl := by obtain ⟨s, hs, hn⟩ := h.tl; exact ⟨s, (World.cell?_of_block (a := pl) (hk _ h.b3)).trans hs, hn⟩
  b0 := h.b0
  b1 := h.b1
  b2 := h.b2
  b3 := h.b3
theorem Env.below {B : Nat} {pe pl : Addr} {w w' : World} (h : Env B pe pl w) (hb : Below B w w') : Env B pe pl w' := h.kept fun k hk => hb.block k hk
theorem Env.errE {B : Nat} {pe pl : Addr} {w : World} (h : Env B pe pl w) : Err (.iface 234 (.pointer (some pe))) w := by obtain ⟨s, hs, hn⟩ := h.te; exact ⟨pe, s, rfl, hs, hn⟩
theorem Env.errL {B : Nat} {pe pl : Addr} {w : World} (h : Env B pe pl w) : Err (.iface 234 (.pointer (some pl))) w := by obtain ⟨s, hs, hn⟩ := h.tl; exact ⟨pl, s, rfl, hs, hn⟩
theorem Two.belowB {r d B : Nat} {w w' : World} (h : Two r d w w') (hB : B ≤ w.heap.size) (hr : B ≤ r) (hd : B ≤ d) : Below B w w' :=
  ⟨h.os, h.tape, h.output, h.size, fun k hk => h.block k (by omega) (by omega) (by omega)⟩
theorem grown_below {r B : Nat} {w w' : World} (h : w.grownBy w' (some r)) (hB : B ≤ w.heap.size) (hr : B ≤ r) : Below B w w' :=
  ⟨h.os, h.tape, h.output, h.size, fun k hk => h.block k (by omega) (by intro e; cases e; omega)⟩
theorem grown_trans {r : Nat} {a b c : World} (h : a.grownBy b (some r)) (k : b.grownBy c (some r)) : a.grownBy c (some r) := Lib.grownBy_trans h k
theorem grown_refl {r : Nat} (a : World) : a.grownBy a (some r) := ⟨rfl, rfl, rfl, Nat.le_refl _, fun _ _ _ => rfl⟩
theorem grown_drewN {r : Nat} {a b : World} (h : a.grownBy b (some r)) (n : Nat) : a.grownBy (b.drewN n) (some r) := ⟨h.os, h.tape, h.output, h.size, h.block⟩
theorem grown_alloc {r : Nat} {a b : World} (h : a.grownBy b (some r)) (o : Obj) : a.grownBy (b.alloc o) (some r) := grown_trans h (World.grownBy_alloc b o _)
theorem u8_and127 (c : Nat) (h : c < 256) : bits .and .u8 (c : Int) 127 = ((c % 128 : Nat) : Int) := by
  have h1 := (bits_nat .u8 8 (by decide) wraps_u8 c 127 (by simpa using h) (by decide)).1
  have e : ((127 : Nat) : Int) = 127 := rfl
  rw [e] at h1
  rw [h1, show c &&& 127 = c % 128 from Nat.and_two_pow_sub_one_eq_mod c 7]
set_option maxRecDepth 100000 in
theorem u8_and128 (c : Nat) (h : c < 256) : bits .and .u8 (c : Int) 128 = if c < 128 then 0 else 128 := by
  have h1 := (bits_nat .u8 8 (by decide) wraps_u8 c 128 (by simpa using h) (by decide)).1
  have e : ((128 : Nat) : Int) = 128 := rfl
  rw [e] at h1
  have h2 : ∀ a : Fin 256, (a.val &&& 128) = if a.val < 128 then 0 else 128 := by decide
  rw [h1, h2 ⟨c, h⟩]
  split <;> rfl
theorem or_shl (a b k : Nat) (h : a < 2 ^ k) : a ||| b * 2 ^ k = a + b * 2 ^ k := by
  have := Nat.shiftLeft_add_eq_or_of_lt h b
  rw [Nat.shiftLeft_eq] at this
  rw [Nat.or_comm, ← this, Nat.add_comm]
theorem orv (z b s : Nat) (hz : z < 2 ^ s) (hs : s ≤ 63) (hb : b * 2 ^ s < 18446744073709551616) : bits .or .u64 (z : Int) (IntKind.u64.wrap ((b : Int) * 2 ^ s)) = ((z + b * 2 ^ s : Nat) : Int) := by
  have hz2 : z < 18446744073709551616 := Nat.lt_of_lt_of_le hz (Nat.le_trans (Nat.pow_le_pow_right (by decide) hs) (by decide))
  have e : IntKind.u64.wrap ((b : Int) * 2 ^ s) = ((b * 2 ^ s : Nat) : Int) := by
    have : ((b * 2 ^ s : Nat) : Int) = (b : Int) * 2 ^ s := by rw [Int.natCast_mul, Int.natCast_pow]; rfl
    rw [← this, IntKind.wrap_u64]; omega
  rw [e, bits_or_u64_nat z (b * 2 ^ s) hz2 hb, or_shl z b s hz]
theorem mul_pow_lt (b j : Nat) (hb : b < 128) (hj : j ≤ 8) : b * 2 ^ (7 * j) < 18446744073709551616 := by
  have h1 : 2 ^ (7 * j) ≤ 2 ^ 56 := Nat.pow_le_pow_right (by decide) (by omega)
  have h2 : b * 2 ^ (7 * j) ≤ 127 * 2 ^ 56 := Nat.mul_le_mul (by omega) h1
  have e : (2 : Nat) ^ 56 = 72057594037927936 := by decide
  omega
set_option maxHeartbeats 8000000 in
set_option maxRecDepth 100000 in
theorem decVar_any (B : Nat) (pe pl : Addr) (r g : Nat) (l : List UInt8) (i : Nat) (w : World) (h : Rd r g l i w) (he : Env B pe pl w) (hBr : B ≤ r) (R : Option (Nat × Nat)) (hR : vrd 0 0 (l.drop i) = R) :
    Calls Tryz.prog 92 #[rdI r] w fun e w' => w.grownBy w' (some r) ∧
      ((∃ v k, R = some (v, k) ∧ e = .returned (.tuple #[.int .u64 (v : Nat), .nilIface]) ∧ Rd r g l (i + k) w') ∨ (R = none ∧ ∃ ev i', e = .returned (.tuple #[.int .u64 0, ev]) ∧ Err ev w' ∧ Rd r g l i' w')) := by
  have hrw := h.lt
  have hgw := h.ltg
  have H := Lib.hid (h.alloc (.cells #[.int .u8 0] 225))
  have HE := Lib.hid he
  have HL := Lib.hid h.len
  have HG := Lib.hid (grown_alloc (grown_refl (r := r) w) (.cells #[.int .u8 0] 225))
  have HR := Lib.hid hR
  clear h he hR
  go_enter Tryz.func92, Tryz.ntmps92
  go_wp2
  go_loopg [4, 5] 11 (fun kq v4 v5 wr => ∃ (j z s : Nat) (x : UInt8), kq + j = 11 ∧ v4 = .int .u64 z ∧ v5 = .int .u64 s ∧ Hid (s = 7 * j) ∧ Hid (Rd r g l (i + j) wr) ∧ Hid (wr.heap[w.heap.size]? = some (.cells #[.int .u8 x.toNat] 225 (0, 0))) ∧ Hid (w.grownBy wr (some r)) ∧ Hid ((j ≤ 9 ∧ vrd j z (l.drop (i + j)) = R ∧ z < 2 ^ (7 * j)) ∨ (j = 10 ∧ R = none)))
  case atStart => exact ⟨0, 0, 0, 0, rfl, rfl, rfl, Lib.hid rfl, H, Lib.hid (heap_alloc_new w _), HG, Lib.hid (.inl ⟨by omega, by simpa using HR.out, by decide⟩)⟩
  case round =>
    clear H HG HR
    obtain ⟨j, z, s, x, hkj, rfl, rfl, HS, H, HD, HG, HV⟩ := hrel
    have hile := H.out.le
    have HEw := Lib.hid (HE.out.below (grown_below HG.out (by omega) hBr))
    by_cases hend : i + j = l.length
    · have H' := Lib.hid (show Rd r g l l.length wr from hend ▸ H.out)
      have hnone : R = none := by
        rcases HV.out with ⟨_, hv, _⟩ | ⟨_, hn⟩
        · rw [hend, List.drop_length] at hv; rw [← hv]; rfl
        · exact hn
      have HN := Lib.hid hnone
      clear hend hnone hile hkj
      go_wp2_with (go_at_call 111; go_loud (refine (readU_end r g l _ _ _ (.iface 234 (.pointer (some pe))) _ H'.out HEw.out.eof).mono ?_; rintro e_ w1 ⟨rfl, q1, hq⟩; have HQ := Lib.hid hq; clear hq))
      go_ret2
      have hq := HQ.out
      subst hq
      exact ⟨grown_drewN HG.out _, .inr ⟨HN.out, _, _, rfl, by obtain ⟨a, t, e1, e2, e3⟩ := HEw.out.errE; exact ⟨a, t, e1, e2, e3⟩, H'.out.drewN q1⟩⟩
    · obtain ⟨c, rest, hcr⟩ : ∃ c rest, l.drop (i + j) = c :: rest := ⟨_, _, List.drop_eq_getElem_cons (by omega)⟩
      have hC := readU_some r g l (i + j) w.heap.size 1 1 1 _ _ wr H.out (by omega) HD.out (by omega) (by omega) (by omega) (by simp)
      have hla : laidAt #[.int .u8 x.toNat] 0 ((l.drop (i + j)).take 1) = #[.int .u8 c.toNat] := by rw [hcr]; rfl
      rw [hla] at hC
      have HC := Lib.hid hC
      have HCR := Lib.hid hcr
      obtain ⟨n, hn⟩ : ∃ n, n = c.toNat := ⟨_, rfl⟩
      rw [← hn] at HC
      have hn256 : n < 256 := by rw [hn]; exact c.toNat_lt
      obtain ⟨b, hb⟩ : ∃ b, Hid (n % 128 = b) := ⟨_, Lib.hid rfl⟩
      have qa : bits .and .u8 (n : Int) 127 = (b : Int) := by rw [u8_and127 n hn256, hb.out]
      have hb1 : b < 128 := by have := hb.out; omega
      have hsj := HS.out
      have HN := Lib.hid hn
      have HLT := Lib.hid (show i + j < l.length by omega)
      clear hC hla hcr hend hn hile
      by_cases h8 : j ≤ 8
      · have hs63 : (s : Int) ≤ 56 := by omega
        obtain ⟨hv, hz⟩ : vrd j z (c :: rest) = R ∧ z < 2 ^ (7 * j) := by
          rcases HV.out with ⟨_, hv, hz⟩ | ⟨hj, _⟩
          · rw [HCR.out] at hv; exact ⟨hv, hz⟩
          · omega
        obtain ⟨V, hV⟩ : ∃ V, Hid (z + b * 2 ^ s = V) := ⟨_, Lib.hid rfl⟩
        have qv : bits .or .u64 (z : Int) (IntKind.u64.wrap ((b : Int) * 2 ^ s)) = (V : Int) := by
          rw [orv z b s (by rw [hsj]; exact hz) (by omega) (by rw [hsj]; exact mul_pow_lt b j hb1 h8), hV.out]
        by_cases h128 : n < 128
        · have qc : bits .and .u8 (n : Int) 128 = 0 := by rw [u8_and128 n hn256, if_pos h128]
          have HRS := Lib.hid (show R = some (V, j + 1) by
            rw [← hv, vrd_end (by have := HN.out; omega) (by rw [← HN.out]; exact h128), ← hV.out, hsj, ← HN.out]
            have : b = n := by have := hb.out; omega
            rw [this])
          clear h128 hn256 hv hz hsj hkj h8
          go_wp2_with (go_at_call 111; refine HC.out.mono ?_; rintro e_ w1 ⟨rfl, h1, h2, h3⟩; have x0 : w1.cell? ⟨w.heap.size, 0, none⟩ = some (.int .u8 (n : Int)) := (blk_cell h2 0).trans rfl; have H1 := Lib.hid (And.intro h1 (And.intro h2 (Two.grown HG.out h3 (Nat.le_refl _)))); clear h1 h2 h3)
          go_ret2
          exact ⟨H1.out.2.2, .inl ⟨V, j + 1, HRS.out, rfl, H1.out.1⟩⟩
        · have qc : bits .and .u8 (n : Int) 128 = 128 := by rw [u8_and128 n hn256, if_neg h128]
          have HNX := Lib.hid (show vrd (j + 1) V rest = R ∧ V < 2 ^ (7 * (j + 1)) ∧ gk - 1 + (j + 1) = 11 ∧ gk - 1 < gk ∧ s + 7 = 7 * (j + 1) ∧ j + 1 ≤ 9 by
            refine ⟨?_, ?_, by omega, by omega, by omega, by omega⟩
            · rw [← hv, vrd_on (by have := HN.out; omega) (by rw [← HN.out]; exact h128), ← hV.out, hsj, ← HN.out, hb.out]
            · rw [← hV.out, hsj, pow7]
              have : b * 2 ^ (7 * j) ≤ 127 * 2 ^ (7 * j) := Nat.mul_le_mul_right _ (by omega)
              omega)
          have HDR := Lib.hid (show l.drop (i + (j + 1)) = rest by
            have := congrArg (List.drop 1) HCR.out
            rw [List.drop_drop] at this
            exact this)
          clear h128 hn256 hv hz hsj hkj h8
          go_wp2_with (go_at_call 111; refine HC.out.mono ?_; rintro e_ w1 ⟨rfl, h1, h2, h3⟩; have x0 : w1.cell? ⟨w.heap.size, 0, none⟩ = some (.int .u8 (n : Int)) := (blk_cell h2 0).trans rfl; have H1 := Lib.hid (And.intro h1 (And.intro h2 (Two.grown HG.out h3 (Nat.le_refl _)))); clear h1 h2 h3)
          go_roundg (gk - 1)
          case measure => exact HNX.out.2.2.2.1
          case rel => exact ⟨j + 1, V, s + 7, c, HNX.out.2.2.1, rfl, by go_num, Lib.hid HNX.out.2.2.2.2.1, Lib.hid H1.out.1, Lib.hid (by rw [← HN.out]; exact H1.out.2.1), Lib.hid H1.out.2.2, Lib.hid (.inl ⟨HNX.out.2.2.2.2.2, by rw [HDR.out]; exact HNX.out.1, HNX.out.2.1⟩)⟩
      · by_cases h10 : j = 10
        · have hs70 : 70 ≤ (s : Int) := by omega
          have hs71 : (s : Int) ≤ 70 := by omega
          have HRN := Lib.hid (show R = none by
            rcases HV.out with ⟨hj, _⟩ | ⟨_, hn⟩
            · omega
            · exact hn)
          clear hsj h8 h10 hkj hn256
          go_wp2_with (go_at_call 111; refine HC.out.mono ?_; rintro e_ w1 ⟨rfl, h1, h2, h3⟩; have x0 : w1.cell? ⟨w.heap.size, 0, none⟩ = some (.int .u8 (n : Int)) := (blk_cell h2 0).trans rfl; have H1 := Lib.hid (And.intro h1 (And.intro h2 (Two.grown HG.out h3 (Nat.le_refl _)))); clear h1 h2 h3)
          have HE1 := Lib.hid (HE.out.below (grown_below H1.out.2.2 (by omega) hBr))
          have x1 := HE1.out.long
          go_quiet (fail)
          go_wp2
          go_ret2
          exact ⟨grown_drewN H1.out.2.2 _, .inr ⟨HRN.out, _, _, rfl, by obtain ⟨a, t, e1, e2, e3⟩ := HE1.out.errL; exact ⟨a, t, e1, e2, e3⟩, H1.out.1.drewN _⟩⟩
        · obtain ⟨hj9, hv, hz⟩ : j = 9 ∧ vrd j z (c :: rest) = R ∧ z < 2 ^ (7 * j) := by
            rcases HV.out with ⟨hj, hv, hz⟩ | ⟨hj, _⟩
            · rw [HCR.out] at hv; exact ⟨by omega, hv, hz⟩
            · omega
          have hs0 : 63 ≤ (s : Int) := by omega
          have hs1 : (s : Int) ≤ 63 := by omega
          have q63 : ((s : Int) == 63) = true := by rw [beq_iff_eq]; omega
          have es : s = 63 := by omega
          by_cases hb2 : 1 < b
          · have HRN := Lib.hid (show R = none by
              rw [← hv]; exact vrd_bad (.inr ⟨hj9, by have := HN.out; have := hb.out; omega⟩))
            have hbb : 1 < (b : Int) := by omega
            clear hsj h8 h10 hkj hn256 hj9 hv hz es hb2
            go_wp2_with (go_at_call 111; refine HC.out.mono ?_; rintro e_ w1 ⟨rfl, h1, h2, h3⟩; have x0 : w1.cell? ⟨w.heap.size, 0, none⟩ = some (.int .u8 (n : Int)) := (blk_cell h2 0).trans rfl; have H1 := Lib.hid (And.intro h1 (And.intro h2 (Two.grown HG.out h3 (Nat.le_refl _)))); clear h1 h2 h3)
            have HE1 := Lib.hid (HE.out.below (grown_below H1.out.2.2 (by omega) hBr))
            have x1 := HE1.out.long
            go_quiet (fail)
            go_wp2
            go_ret2
            exact ⟨grown_drewN H1.out.2.2 _, .inr ⟨HRN.out, _, _, rfl, by obtain ⟨a, t, e1, e2, e3⟩ := HE1.out.errL; exact ⟨a, t, e1, e2, e3⟩, H1.out.1.drewN _⟩⟩
          · have hbb : (b : Int) ≤ 1 := by omega
            obtain ⟨V, hV⟩ : ∃ V, Hid (z + b * 2 ^ s = V) := ⟨_, Lib.hid rfl⟩
            have qv : bits .or .u64 (z : Int) (IntKind.u64.wrap ((b : Int) * 2 ^ s)) = (V : Int) := by
              rw [orv z b s (by rw [hsj]; exact hz) (by omega) (by
                rw [es]
                have : b * 2 ^ 63 ≤ 1 * 2 ^ 63 := Nat.mul_le_mul_right _ (by omega)
                have e : (2 : Nat) ^ 63 = 9223372036854775808 := by decide
                omega), hV.out]
            by_cases h128 : n < 128
            · have qc : bits .and .u8 (n : Int) 128 = 0 := by rw [u8_and128 n hn256, if_pos h128]
              have HRS := Lib.hid (show R = some (V, j + 1) by
                rw [← hv, vrd_end (by have := HN.out; have := hb.out; omega) (by rw [← HN.out]; exact h128), ← hV.out, hsj, ← HN.out]
                have : b = n := by have := hb.out; omega
                rw [this])
              clear h128 hn256 hv hz hsj hkj h8 h10 hj9 es hb2
              go_wp2_with (go_at_call 111; refine HC.out.mono ?_; rintro e_ w1 ⟨rfl, h1, h2, h3⟩; have x0 : w1.cell? ⟨w.heap.size, 0, none⟩ = some (.int .u8 (n : Int)) := (blk_cell h2 0).trans rfl; have H1 := Lib.hid (And.intro h1 (And.intro h2 (Two.grown HG.out h3 (Nat.le_refl _)))); clear h1 h2 h3)
              go_ret2
              exact ⟨H1.out.2.2, .inl ⟨V, j + 1, HRS.out, rfl, H1.out.1⟩⟩
            · have qc : bits .and .u8 (n : Int) 128 = 128 := by rw [u8_and128 n hn256, if_neg h128]
              have HNX := Lib.hid (show R = none ∧ gk - 1 + (j + 1) = 11 ∧ gk - 1 < gk ∧ s + 7 = 7 * (j + 1) ∧ j + 1 = 10 by
                refine ⟨?_, by omega, by omega, by omega, by omega⟩
                rw [← hv]; exact vrd_bad (.inr ⟨hj9, by have := HN.out; omega⟩))
              clear h128 hn256 hv hz hsj hkj h8 h10 hj9 es hb2
              go_wp2_with (go_at_call 111; refine HC.out.mono ?_; rintro e_ w1 ⟨rfl, h1, h2, h3⟩; have x0 : w1.cell? ⟨w.heap.size, 0, none⟩ = some (.int .u8 (n : Int)) := (blk_cell h2 0).trans rfl; have H1 := Lib.hid (And.intro h1 (And.intro h2 (Two.grown HG.out h3 (Nat.le_refl _)))); clear h1 h2 h3)
              go_roundg (gk - 1)
              case measure => exact HNX.out.2.2.1
              case rel => exact ⟨j + 1, V, s + 7, c, HNX.out.2.1, rfl, by go_num, Lib.hid HNX.out.2.2.2.1, Lib.hid H1.out.1, Lib.hid (by rw [← HN.out]; exact H1.out.2.1), Lib.hid H1.out.2.2, Lib.hid (.inr ⟨HNX.out.2.2.2.2, HNX.out.1⟩)⟩
end Go.Proofs.YtgdbeiadlgkedaaGreatDoor
namespace Go.Proofs.YtgdbeiadlgkedaaGreatDoor
open Go.ChangeShapes Go.WideShapes Go.ChangeAt Go.RowKit
set_option linter.unusedVariables false
abbrev laid2 : List (String × DataW Unit) := [("io.EOF", Rows.laid_io_EOF), ("pub-tailwater/pub/beam/coder.ErrVarIntTooLong", Rows.laid_pub_tailwater_pub_beam_coder_ErrVarIntTooLong)]
theorem gE : Tryz.prog.globalNamed "io.EOF" = some 2 := by kernel_rfl
theorem gET : (Tryz.prog.globals[2]?).map (·.type) = some 79 := by kernel_rfl
theorem gL : Tryz.prog.globalNamed "pub-tailwater/pub/beam/coder.ErrVarIntTooLong" = some 3 := by kernel_rfl
theorem gLT : (Tryz.prog.globals[3]?).map (·.type) = some 79 := by kernel_rfl
theorem cellsES : Tryz.prog.cellsOf 236 = 1 := by kernel_rfl
theorem cellsS : Tryz.prog.cellsOf 9 = 1 := by kernel_rfl
theorem star : "*" ++ "errors.errorString" = "*errors.errorString" := by decide
theorem rowES (u : TypeId) (h : Tryz.prog.typeName? 3 u = some "*errors.errorString") : u = 234 :=
  typeName_ptr_named (nm := "errors.errorString") (by rw [star]; kernel_rfl) (by kernel_rfl) (by decide) u (by rw [star]; exact h)
theorem env_of_laid {W : World} (h : laidMetH Tryz.prog laid2 W) : ∃ pe pl, Env W.heap.size pe pl W := by
  rw [MakeChecks.laidMetH_plain _ _ _ (by kernel_rfl)] at h
  obtain ⟨a0, s0, hv0, hc0, hs0, -⟩ := laid_sentinel h gE gET Tryz.underlying79 rowES Tryz.underlying234 Tryz.underlying236 rfl rfl Tryz.underlying9 cellsES cellsS
  obtain ⟨a1, s1, hv1, hc1, hs1, -⟩ := laid_sentinel h.tail gL gLT Tryz.underlying79 rowES Tryz.underlying234 Tryz.underlying236 rfl rfl Tryz.underlying9 cellsES cellsS
  have x0 : W.cell? ⟨2, 0, none⟩ = some (.iface 234 (.pointer (some a0))) := by have := World.var?_cell gE hv0 0; simpa using this
  have x1 : W.cell? ⟨3, 0, none⟩ = some (.iface 234 (.pointer (some a1))) := by have := World.var?_cell gL hv1 0; simpa using this
  exact ⟨a0, a1, { eof := x0, long := x1, te := ⟨s0, hc0, by rw [hs0]; decide⟩, tl := ⟨s1, hc1, by rw [hs1]; decide⟩, b0 := World.block_lt_of_cell? W _ x0, b1 := World.block_lt_of_cell? W _ x1, b2 := World.block_lt_of_cell? W _ hc0, b3 := World.block_lt_of_cell? W _ hc1 }⟩
theorem door_met (os : Os) (args : Array Value) : laidMetH Tryz.prog laid2 ((World.doorLaid Tryz.prog 400 os).forCall (fun _ _ => 0) ⟨#[], args, []⟩).memory :=
  laidMetH_of_parts3 (fuel := 8) (laidMet_of_run' 8 (by kernel_rfl) (by kernel_rfl)) (by kernel_rfl) (by kernel_rfl)
theorem own : ownKnob Tryz.prog.godebug = none := by kernel_rfl
theorem laidOut : laidOutB Tryz.prog = true := by kernel_rfl
end Go.Proofs.YtgdbeiadlgkedaaGreatDoor
