/- Contracts and plain laws, several texts in one. -/
import Derived.Test.YtgdbeiadlgkedaaGreatDoorMHeaderRead0
import Derived.Shelf.LaysM
import Derived.Shelf.Bytes.Len
import Derived.Shelf.Bytes.TryGrow
import Derived.Shelf.Bytes.GrowSliceCatch
import Derived.Shelf.Bytes.GrowSlice
import Derived.Shelf.Bytes.String
import Derived.Ground.MnProg
import Derived.Shelf.Bin.BEUint32
import Derived.Shelf.Bin.BEPutUint32
import Derived.Shelf.Bin.BEUint64
import Derived.Shelf.Bin.BEPutUint64
import Derived.Shelf.Bytes.GrowRow0Own
import Derived.Shelf.Bytes.GrowRowOwn
import Derived.Shelf.Bytes.GrowNilOwn
import Derived.Shelf.Bytes.GrowOwn
import Derived.Shelf.Bytes.WriteAny
import Derived.Test.YtgdbeiadlgkedaaGreatDoorProg
import Derived.Lib.BufferOld
import Derived.Lib.BufferKept
import Derived.Lib.BufferWrite
import Derived.Lib.VarintMem
import Derived.Laws.AppendOwn
import Derived.LoopTactic
import Derived.Deep.LoopGhost
import Derived.OwnWalk
import Derived.Laws.Bits64b
namespace Go.Proofs
open Go.Shelf
open Go.RowKit in
open Go.RowKit in
open Go.RowKit in
open Go.RowKit in
open Go.RowKit in
def Tryz.laysM182_ren : Go.Shelf.Ren := ⟨fun | 182 => 49 | n => n, fun | 130 => 109 | 9 => 9 | 4 => 4 | 0 => 0 | 93 => 105 | 37 => 77 | 3 => 3 | 91 => 103 | 5 => 5 | n => n, fun | n => n⟩
theorem Tryz.laysM182 : Go.Proofs.LaysM.n182 Tryz.prog Tryz.laysM182_ren := {
  mixed := by kernel_rfl
  f182 := Tryz.func49.trans (congrArg some (by kernel_rfl))
  t0 := Tryz.underlying0
  a0 := Tryz.isAgg0
  z0 := Tryz.sizeOf0
  v0 := Tryz.zeroValue0
  t3 := Tryz.underlying3
  a3 := Tryz.isAgg3
  z3 := Tryz.sizeOf3
  v3 := Tryz.zeroValue3
  t4 := Tryz.underlying4
  a4 := Tryz.isAgg4
  z4 := Tryz.sizeOf4
  v4 := Tryz.zeroValue4
  t9 := Tryz.underlying9
  a9 := Tryz.isAgg9
  z9 := Tryz.sizeOf9
  v9 := Tryz.zeroValue9
  t37 := Tryz.underlying77
  a37 := Tryz.isAgg77
  z37 := Tryz.sizeOf77
  v37 := Tryz.zeroValue77
  t93 := Tryz.underlying105
  a93 := Tryz.isAgg105
  z93 := Tryz.sizeOf105
  v93 := Tryz.zeroValue105
  t130 := Tryz.underlying109
  a130 := Tryz.isAgg109
  z130 := Tryz.sizeOf109
  v130 := Tryz.zeroValue109
  t5 := Tryz.underlying5
  a5 := Tryz.isAgg5
  z5 := Tryz.sizeOf5
  v5 := Tryz.zeroValue5
  t91 := Tryz.underlying103
  a91 := Tryz.isAgg103
  z91 := Tryz.sizeOf103
  v91 := Tryz.zeroValue103
  i0 := by kernel_rfl
  i3 := by kernel_rfl
  i4 := by kernel_rfl
  i5 := by kernel_rfl
  i9 := by kernel_rfl
  i37 := by kernel_rfl
  i91 := by kernel_rfl
  i93 := by kernel_rfl
  i130 := by kernel_rfl }
open Go.RowKit in
theorem Tryz.Buffer_String (B b : Nat) (l : List UInt8) (w : World) (h : Lib.IsBuffer 105 5 B b (Lib.byteCells l) w) :
    Calls Tryz.prog 49 #[.pointer (some ⟨b, 0, none⟩)] w fun e w' => e = .returned (.string ⟨l.toArray⟩) ∧ ∃ n, w' = w.drewN n := Any.Buffer_String Tryz.laysM182 B b l w h
def Tryz.laysBin39_ren : Go.Shelf.Ren := ⟨fun | 39 => 109 | n => n, fun | 37 => 220 | 22 => 77 | 29 => 148 | 0 => 0 | 5 => 5 | 45 => 207 | n => n, fun | n => n⟩
theorem Tryz.laysBin39 : Go.Proofs.LaysBin.n39 Tryz.prog Tryz.laysBin39_ren := {
  mixed := by kernel_rfl
  f39 := Tryz.func109.trans (congrArg some (by kernel_rfl))
  t0 := Tryz.underlying0
  a0 := Tryz.isAgg0
  z0 := Tryz.sizeOf0
  v0 := Tryz.zeroValue0
  i0 := by kernel_rfl
  t5 := Tryz.underlying5
  a5 := Tryz.isAgg5
  z5 := Tryz.sizeOf5
  v5 := Tryz.zeroValue5
  i5 := by kernel_rfl
  t22 := Tryz.underlying77
  a22 := Tryz.isAgg77
  z22 := Tryz.sizeOf77
  v22 := Tryz.zeroValue77
  i22 := by kernel_rfl
  t29 := Tryz.underlying148
  a29 := Tryz.isAgg148
  z29 := Tryz.sizeOf148
  v29 := Tryz.zeroValue148
  i29 := by kernel_rfl
  t37 := Tryz.underlying220
  a37 := Tryz.isAgg220
  z37 := Tryz.sizeOf220
  v37 := Tryz.zeroValue220
  i37 := by kernel_rfl
  t45 := Tryz.underlying207
  a45 := Tryz.isAgg207
  z45 := Tryz.sizeOf207
  v45 := Tryz.zeroValue207
  i45 := by kernel_rfl }
open Go.RowKit in
theorem Tryz.binary_BE_Uint32 (g o n c : Nat) (b0 b1 b2 b3 : UInt8) (w : World) (hn : 4 ≤ n) (c0 : w.cell? ⟨g, o, none⟩ = some (.int .u8 b0.toNat)) (c1 : w.cell? ⟨g, o + 1, none⟩ = some (.int .u8 b1.toNat)) (c2 : w.cell? ⟨g, o + 2, none⟩ = some (.int .u8 b2.toNat)) (c3 : w.cell? ⟨g, o + 3, none⟩ = some (.int .u8 b3.toNat)) :
    Calls Tryz.prog 109 #[.agg #[], .slice (some ⟨g, o, none⟩) n c] w fun e w' => e = .returned (.int .u32 (Lib.beNat [b0, b1, b2, b3])) ∧ Below w.heap.size w w' := Any.binary_BE_Uint32 Tryz.laysBin39 g o n c b0 b1 b2 b3 w hn c0 c1 c2 c3
open Go.RowKit in
def Tryz.laysBin42_ren : Go.Shelf.Ren := ⟨fun | 42 => 108 | n => n, fun | 37 => 220 | 22 => 77 | 33 => 63 | 0 => 0 | 5 => 5 | 45 => 207 | n => n, fun | n => n⟩
theorem Tryz.laysBin42 : Go.Proofs.LaysBin.n42 Tryz.prog Tryz.laysBin42_ren := {
  mixed := by kernel_rfl
  f42 := Tryz.func108.trans (congrArg some (by kernel_rfl))
  t0 := Tryz.underlying0
  a0 := Tryz.isAgg0
  z0 := Tryz.sizeOf0
  v0 := Tryz.zeroValue0
  i0 := by kernel_rfl
  t5 := Tryz.underlying5
  a5 := Tryz.isAgg5
  z5 := Tryz.sizeOf5
  v5 := Tryz.zeroValue5
  i5 := by kernel_rfl
  t22 := Tryz.underlying77
  a22 := Tryz.isAgg77
  z22 := Tryz.sizeOf77
  v22 := Tryz.zeroValue77
  i22 := by kernel_rfl
  t33 := Tryz.underlying63
  a33 := Tryz.isAgg63
  z33 := Tryz.sizeOf63
  v33 := Tryz.zeroValue63
  i33 := by kernel_rfl
  t37 := Tryz.underlying220
  a37 := Tryz.isAgg220
  z37 := Tryz.sizeOf220
  v37 := Tryz.zeroValue220
  i37 := by kernel_rfl
  t45 := Tryz.underlying207
  a45 := Tryz.isAgg207
  z45 := Tryz.sizeOf207
  v45 := Tryz.zeroValue207
  i45 := by kernel_rfl }
open Go.RowKit in
theorem Tryz.binary_BE_Uint64 (g o n c : Nat) (b0 b1 b2 b3 b4 b5 b6 b7 : UInt8) (w : World) (hn : 8 ≤ n) (c0 : w.cell? ⟨g, o, none⟩ = some (.int .u8 b0.toNat)) (c1 : w.cell? ⟨g, o + 1, none⟩ = some (.int .u8 b1.toNat)) (c2 : w.cell? ⟨g, o + 2, none⟩ = some (.int .u8 b2.toNat)) (c3 : w.cell? ⟨g, o + 3, none⟩ = some (.int .u8 b3.toNat)) (c4 : w.cell? ⟨g, o + 4, none⟩ = some (.int .u8 b4.toNat)) (c5 : w.cell? ⟨g, o + 5, none⟩ = some (.int .u8 b5.toNat)) (c6 : w.cell? ⟨g, o + 6, none⟩ = some (.int .u8 b6.toNat)) (c7 : w.cell? ⟨g, o + 7, none⟩ = some (.int .u8 b7.toNat)) :
    Calls Tryz.prog 108 #[.agg #[], .slice (some ⟨g, o, none⟩) n c] w fun e w' => e = .returned (.int .u64 (Lib.beNat [b0, b1, b2, b3, b4, b5, b6, b7])) ∧ Below w.heap.size w w' := Any.binary_BE_Uint64 Tryz.laysBin42 g o n c b0 b1 b2 b3 b4 b5 b6 b7 w hn c0 c1 c2 c3 c4 c5 c6 c7
open Go.RowKit in
open Go.RowKit in
open Go.RowKit in
open Go.RowKit in
open Go.RowKit in
open Go.RowKit in
open Go.RowKit in
def Tryz.laysM180_ren : Go.Shelf.Ren := ⟨fun | 180 => 135 | 251 => 137 | 252 => 138 | 181 => 139 | 184 => 134 | 290 => 140 | 324 => 141 | n => n, fun | 130 => 109 | 37 => 77 | 3 => 3 | 75 => 79 | 0 => 0 | 93 => 105 | 91 => 103 | 131 => 258 | 4 => 4 | 20 => 20 | 5 => 5 | 80 => 110 | 9 => 9 | n => n, fun | 14 => 4 | n => n⟩
theorem Tryz.laysM180 : Go.Proofs.LaysM.n180 Tryz.prog Tryz.laysM180_ren := {
  mixed := by kernel_rfl
  f180 := Tryz.func135.trans (congrArg some (by kernel_rfl))
  f181 := Tryz.func139.trans (congrArg some (by kernel_rfl))
  f184 := Tryz.func134.trans (congrArg some (by kernel_rfl))
  f251 := Tryz.func137.trans (congrArg some (by kernel_rfl))
  f252 := Tryz.func138.trans (congrArg some (by kernel_rfl))
  f290 := Tryz.func140.trans (congrArg some (by kernel_rfl))
  f324 := Tryz.func141.trans (congrArg some (by kernel_rfl))
  t0 := Tryz.underlying0
  a0 := Tryz.isAgg0
  z0 := Tryz.sizeOf0
  v0 := Tryz.zeroValue0
  t3 := Tryz.underlying3
  a3 := Tryz.isAgg3
  z3 := Tryz.sizeOf3
  v3 := Tryz.zeroValue3
  t4 := Tryz.underlying4
  a4 := Tryz.isAgg4
  z4 := Tryz.sizeOf4
  v4 := Tryz.zeroValue4
  t20 := Tryz.underlying20
  a20 := Tryz.isAgg20
  z20 := Tryz.sizeOf20
  v20 := Tryz.zeroValue20
  t37 := Tryz.underlying77
  a37 := Tryz.isAgg77
  z37 := Tryz.sizeOf77
  v37 := Tryz.zeroValue77
  t75 := Tryz.underlying79
  a75 := Tryz.isAgg79
  z75 := Tryz.sizeOf79
  v75 := Tryz.zeroValue79
  t91 := Tryz.underlying103
  a91 := Tryz.isAgg103
  z91 := Tryz.sizeOf103
  v91 := Tryz.zeroValue103
  t93 := Tryz.underlying105
  a93 := Tryz.isAgg105
  z93 := Tryz.sizeOf105
  v93 := Tryz.zeroValue105
  t130 := Tryz.underlying109
  a130 := Tryz.isAgg109
  z130 := Tryz.sizeOf109
  v130 := Tryz.zeroValue109
  t131 := Tryz.underlying258
  a131 := Tryz.isAgg258
  z131 := Tryz.sizeOf258
  v131 := Tryz.zeroValue258
  g14 := by kernel_rfl
  t5 := Tryz.underlying5
  a5 := Tryz.isAgg5
  z5 := Tryz.sizeOf5
  v5 := Tryz.zeroValue5
  t9 := Tryz.underlying9
  a9 := Tryz.isAgg9
  z9 := Tryz.sizeOf9
  v9 := Tryz.zeroValue9
  t80 := Tryz.underlying110
  a80 := Tryz.isAgg110
  z80 := Tryz.sizeOf110
  v80 := Tryz.zeroValue110
  i0 := by kernel_rfl
  i3 := by kernel_rfl
  i4 := by kernel_rfl
  i5 := by kernel_rfl
  i9 := by kernel_rfl
  i20 := by kernel_rfl
  i37 := by kernel_rfl
  i75 := by kernel_rfl
  i80 := by kernel_rfl
  i91 := by kernel_rfl
  i93 := by kernel_rfl
  i130 := by kernel_rfl
  i131 := by kernel_rfl
  m14 := by kernel_rfl }
open Go.RowKit in
theorem Tryz.Buffer_Write_any (B b : Nat) (bs cs : List Value) (a : Addr) (n c : Nat) (w : World) (h : Lib.IsBuffer 105 5 B b bs w) (hBw : B ≤ w.heap.size) (h1 : ∀ v ∈ bs, v.oneCell' = true) (hn : cs.length = n) (hab : a.block ≠ b) (hsrc : ∀ j v, cs[j]? = some v → w.cell? (a.add j) = some v) (h1c : ∀ v ∈ cs, v.oneCell' = true) (hlim : bs.length + n ≤ 140737488355328) :
    Calls Tryz.prog 135 #[.pointer (some ⟨b, 0, none⟩), .slice (some a) n c] w fun e w' => e = .returned (.tuple #[.int .i64 n, .nilIface]) ∧ Lib.IsBuffer 105 5 B b (bs ++ cs) w' ∧ Below B w w' ∧ Lib.OthersKept 5 (some b) w w' := Any.Buffer_Write_any Tryz.laysM180 B b bs cs a n c w h hBw h1 hn hab hsrc h1c hlim
end Go.Proofs
namespace Go.Proofs.YtgdbeiadlgkedaaGreatDoor
open Go.RowKit
set_option linter.unusedVariables false
set_option linter.unusedSimpArgs false
abbrev Bf (B b : Nat) (l : List UInt8) (w : World) : Prop := Lib.IsBuffer 105 5 B b (Lib.byteCells l) w
abbrev bfI (b : Nat) : Value := .iface 109 (.pointer (some ⟨b, 0, none⟩))
theorem Bf.size {B b : Nat} {l : List UInt8} {w : World} (h : Bf B b l w) : B ≤ w.heap.size := Nat.le_trans h.1 (Nat.le_of_lt h.lt)
def At (w : World) (a : Addr) (l : List UInt8) : Prop := ∀ j x, l[j]? = some x → w.cell? (a.add j) = some (.int .u8 x.toNat)
theorem At.cells {w : World} {a : Addr} {l : List UInt8} (h : At w a l) : ∀ j v, (Lib.byteCells l)[j]? = some v → w.cell? (a.add j) = some v := by
  intro j v hj
  obtain ⟨x, hx, rfl⟩ := cellsOf_get (l := l) hj
  exact h j x hx
theorem At.kept {w w' : World} {a : Addr} {l : List UInt8} (h : At w a l) (hk : w'.heap[a.block]? = w.heap[a.block]?) : At w' a l := by
  intro j x hj
  have e : (a.add j).block = a.block := by unfold Addr.add; split <;> rfl
  exact (World.cell?_of_block (a := a.add j) (by rw [e]; exact hk)).trans (h j x hj)
theorem At.mk {w : World} {b : Nat} {l : List UInt8} (h : ∀ j x, l[j]? = some x → w.cell? ⟨b, j, none⟩ = some (.int .u8 x.toNat)) : At w ⟨b, 0, none⟩ l := by
  intro j x hj
  rw [Lib.addr_add, Nat.zero_add]
  exact h j x hj
theorem write_any (B b : Nat) (l l2 : List UInt8) (a : Addr) (n c : Nat) (w : World) (h : Bf B b l w) (hn : l2.length = n) (hab : a.block ≠ b) (hsrc : At w a l2) (hlim : l.length + n ≤ 140737488355328) :
    Calls Tryz.prog 135 #[.pointer (some ⟨b, 0, none⟩), .slice (some a) n c] w fun e w' => e = .returned (.tuple #[.int .i64 n, .nilIface]) ∧ Bf B b (l ++ l2) w' ∧ Below B w w' ∧ Lib.OthersKept 5 (some b) w w' :=
  (Tryz.Buffer_Write_any B b (Lib.byteCells l) (Lib.byteCells l2) a n c w h h.size (Lib.byteCells_one _) (by rw [Lib.byteCells_length]; exact hn) hab hsrc.cells (Lib.byteCells_one _) (by rw [Lib.byteCells_length]; exact hlim)).mono fun e w' ⟨a1, a2, a3, a4⟩ => ⟨a1, by rw [← Lib.byteCells_append] at a2; exact a2, a3, a4⟩
theorem wrU_any (B b : Nat) (l l2 : List UInt8) (a : Addr) (n c : Nat) (w : World) (h : Bf B b l w) (hn : l2.length = n) (hab : a.block ≠ b) (hsrc : At w a l2) (hlim : l.length + n ≤ 140737488355328) :
    Calls Tryz.prog 100 #[bfI b, .slice (some a) n c] w fun e w' => e = .returned (.tuple #[.int .i64 n, .nilIface]) ∧ Bf B b (l ++ l2) w' ∧ Below B w w' ∧ Lib.OthersKept 5 (some b) w w' := by
  have hC := write_any B b l l2 a n c w h hn hab hsrc hlim
  clear h hsrc hn hab hlim
  go_enter Tryz.func100, Tryz.ntmps100
  go_wp2_with (go_at_call 135; refine hC.mono ?_; rintro e_ w1 ⟨rfl, h1⟩; have H1 := Lib.hid h1; clear h1)
  go_ret2
  exact ⟨rfl, H1.out⟩
theorem Two.alloc {r d : Nat} {w w' : World} (h : Two r d w w') (o : Obj) : Two r d w (w'.alloc o) :=
  ⟨h.os, h.tape, h.output, Nat.le_trans h.size (by simp), fun k hk a b => (Below.heap_alloc w' o k (Nat.lt_of_lt_of_le hk h.size)).trans (h.block k hk a b)⟩
theorem Two.below {d : Nat} {w0 w w' : World} (h : Two d d w w') (hb : Below w0.heap.size w0 w) (hd : w0.heap.size ≤ d) : Below w0.heap.size w0 w' :=
  ⟨h.os.trans hb.os, h.tape.trans hb.tape, h.output.trans hb.output, Nat.le_trans hb.size h.size, fun k hk => (h.block k (Nat.lt_of_lt_of_le hk hb.size) (by omega) (by omega)).trans (hb.block k hk)⟩
theorem Below.lower {B : Nat} {w0 w w' : World} (hb : Below w0.heap.size w0 w) (hB : B ≤ w0.heap.size) (h : Below B w w') : Below B w0 w' := (hb.mono hB).trans h
theorem millis_any (t : Int) (w : World) : Calls Tryz.prog 103 #[.int .i64 t] w fun e w' => e = .returned (.int .i64 t) ∧ w = w' := by
  go_enter Tryz.func103, Tryz.ntmps103
  go_wp2
  go_ret
  exact ⟨rfl, rfl⟩
end Go.Proofs.YtgdbeiadlgkedaaGreatDoor
namespace Go.Proofs.YtgdbeiadlgkedaaGreatDoor
open Go.RowKit
set_option linter.unusedVariables false
set_option linter.unusedSimpArgs false
theorem info_u8 : (Tryz.prog.info? 5).map (fun i => (i.zero, i.size, i.bytes)) = some (some (.int .u8 0), 1, 1) := by kernel_rfl
set_option maxRecDepth 100000 in
theorem or128 (d : Nat) (h : d < 128) : d ||| 128 = d + 128 := by
  have : ∀ a : Fin 128, (a.val ||| 128) = a.val + 128 := by decide
  exact this ⟨d, h⟩
theorem and127 (u : Nat) : u &&& 127 = u % 128 := Nat.and_two_pow_sub_one_eq_mod u 7
theorem row_out {w w1 : World} {s : List UInt8} {d : Nat} {v' : Value} {l : List UInt8} (h : w1.ownsRow w.heap.size 5 1 v' (s.length + 1) (Lib.byteCells (s ++ [d.toUInt8]))) (hl : s ++ [d.toUInt8] = l) :
    ∃ g cap, v' = .slice (some ⟨g, 0, none⟩) l.length cap ∧ Hid (w.heap.size ≤ g ∧ At w1 ⟨g, 0, none⟩ l) := by
  subst hl
  rcases h.2 with ⟨_, hn⟩ | ⟨g, cap, cur, rfl, hg, _⟩
  · omega
  · refine ⟨g, cap, by rw [List.length_append]; rfl, Lib.hid ⟨hg, fun j x hj => ?_⟩⟩
    exact h.cells (g := g) rfl j _ (by rw [Lib.byteCells, List.getElem?_map, hj]; rfl)
set_option maxHeartbeats 4000000 in
set_option maxRecDepth 100000 in
theorem encVar_abs (b v : Nat) (w : World) (hv : v < 18446744073709551616) (Q : World → Prop)
    (hW : ∀ (a : Addr) (c : Nat) (w1 : World), Below w.heap.size w w1 → w.heap.size ≤ a.block → At w1 a (Lib.uvarint v) →
      Calls Tryz.prog 100 #[bfI b, .slice (some a) (Lib.uvarint v).length c] w1 fun e w' => e = .returned (.tuple #[.int .i64 ((Lib.uvarint v).length : Nat), .nilIface]) ∧ Q w') :
    Calls Tryz.prog 77 #[.int .u64 v, bfI b] w fun e w' => e = .returned .nilIface ∧ Q w' := by
  have hmk : ∀ w : World, (Instr.makeSlice 77 (.int .i64 0) (.int .i64 8)).run Tryz.prog w = .ok (.slice (some ⟨w.heap.size, 0, none⟩) 0 8) (w.alloc (.cells #[.int .u8 0, .int .u8 0, .int .u8 0, .int .u8 0, .int .u8 0, .int .u8 0, .int .u8 0, .int .u8 0] 5)) := fun _ => by kernel_rfl
  obtain ⟨i0, hi, hz0, hz1, hz2⟩ := info_parts info_u8
  have HW := Lib.hid hW
  have HV := Lib.hid hv
  have HL := Lib.hid (Lib.uvarint_length64 hv)
  have hown0 : (w.alloc (.cells #[.int .u8 0, .int .u8 0, .int .u8 0, .int .u8 0, .int .u8 0, .int .u8 0, .int .u8 0, .int .u8 0] 5)).ownsRow w.heap.size 5 1 (.slice (some ⟨w.heap.size, 0, none⟩) 0 8) ([] : List UInt8).length (Lib.byteCells []) := World.ownsRow_made w _ 8 (Nat.le_refl _) (by unfold maxLen; omega) rfl
  have HO := Lib.hid hown0
  clear hW hv hown0
  go_enter Tryz.func77, Tryz.ntmps77
  go_wp2
  go_loopg [0, 5] v (fun kq v0 v5 wr => ∃ (u : Nat) (s : List UInt8), kq = u ∧ v0 = .int .u64 u ∧ Hid (wr.ownsRow w.heap.size 5 1 v5 s.length (Lib.byteCells s)) ∧ Hid (s ++ Lib.uvarint u = Lib.uvarint v) ∧ Hid (Below w.heap.size w wr) ∧ Hid (u < 18446744073709551616))
  case atStart => exact ⟨v, [], rfl, rfl, HO, Lib.hid (by simp), Lib.hid ((Below.refl _ w).alloc (Nat.le_refl _) _), HV⟩
  case round =>
    clear HO
    obtain ⟨_, s, rfl, rfl, HO, HS, HB, HU⟩ := hrel
    obtain ⟨d, hd⟩ : ∃ d, Hid (gk % 128 = d) := ⟨_, Lib.hid rfl⟩
    obtain ⟨q, hq⟩ : ∃ q, Hid (gk / 128 = q) := ⟨_, Lib.hid rfl⟩
    have q1 : bits .and .u64 (gk : Int) 127 = (d : Int) := by
      have := bits_and_u64_nat gk 127 HU.out (by decide)
      rw [and127, hd.out] at this; exact this
    have q2 : (gk : Int) / 128 = (q : Int) := by have := hq.out; omega
    have HLS := Lib.hid (show s.length + (Lib.uvarint gk).length ≤ 10 by
      have h1 := congrArg List.length HS.out
      rw [List.length_append] at h1
      have := HL.out; omega)
    have hp := Lib.uvarint_pos gk
    by_cases h : gk < 128
    · have hz : q = 0 := by have := hq.out; omega
      subst hz
      have hdu : d = gk := by have := hd.out; omega
      have q3 : bits .or .u64 (d : Int) 0 = (d : Int) := by
        have := bits_or_u64_nat d 0 (by omega) (by decide)
        rw [Nat.or_zero] at this; exact this
      have q5 : (d : Int) % 256 = (d : Int) := by omega
      have HD := Lib.hid (show d < 256 by omega)
      have HS1 := Lib.hid (show s ++ [d.toUInt8] = Lib.uvarint v by rw [← HS.out, Lib.uvarint_small h, hdu])
      clear h hdu
      go_wp2_with (first
        | (at_builtin; go_loud (refine wpList_append_own _ rfl _ _ 77 rfl w.heap.size 5 i0 (.int .u8 0) 1 1 Tryz.underlying77 hi hz0 hz1 hz2 rfl (by decide) _ s.length (Lib.byteCells s) rfl (HO.out.alloc _) ⟨wr.heap.size, 0, none⟩ 1 1 [.int .u8 (d : Int)] rfl rfl ?c1 ?c2 ?c3 ?c4 ?c5 ?_; (case c1 => exact cell_one_new _ _ _); (case c2 => intro u hu; simp at hu; subst hu; rfl); (case c3 => have := HLS.out; unfold maxLen; omega); (case c4 => have := HLS.out; omega); (case c5 => have := HB.out.size; simp; omega); intro v' w1 hown' hgrow _; have HB1 := Lib.hid (Below.grown (HB.out.alloc HB.out.size _) hgrow (by have := HB.out.size; simp; omega) (fun k hk => (HO.out.lt k hk).1)); rw [← Lib.byteCells_snoc s HD.out] at hown'; have HO1 := Lib.hid hown'; clear hown' hgrow; obtain ⟨g, cap, rfl, hgg⟩ : ∃ g cap, v' = .slice (some ⟨g, 0, none⟩) (Lib.uvarint v).length cap ∧ Hid (w.heap.size ≤ g ∧ At w1 ⟨g, 0, none⟩ (Lib.uvarint v)) := row_out HO1.out HS1.out))
        | (go_at_call 100; refine (HW.out ⟨g, 0, none⟩ cap w1 HB1.out hgg.out.1 hgg.out.2).mono ?_; rintro e_ w2 ⟨rfl, hQ⟩; have HQ := Lib.hid hQ; clear hQ))
      go_ret
      exact ⟨rfl, HQ.out⟩
    · have hqp : ((q : Int) == 0) = false := beq_eq_false_iff_ne.mpr (by have := hq.out; omega)
      have hqp2 : ((q : Int) != 0) = true := by rw [bne, hqp]; rfl
      have hdl : d < 128 := by have := hd.out; omega
      obtain ⟨x, hx⟩ : ∃ x, Hid (d + 128 = x) := ⟨_, Lib.hid rfl⟩
      have q3 : bits .or .u64 (d : Int) 128 = (x : Int) := by
        have := bits_or_u64_nat d 128 (by omega) (by decide)
        rw [or128 d hdl, hx.out] at this; exact this
      have q5 : (x : Int) % 256 = (x : Int) := by have := hx.out; omega
      have HD := Lib.hid (show x < 256 by have := hx.out; omega)
      have HS1 := Lib.hid (show (s ++ [x.toUInt8]) ++ Lib.uvarint q = Lib.uvarint v by
        rw [← HS.out, Lib.uvarint_big (x := gk) (by omega), ← hq.out, ← hx.out, ← hd.out, List.append_assoc]; rfl)
      have HQ := Lib.hid (show q < gk ∧ q < 18446744073709551616 by have := hq.out; have := HU.out; omega)
      clear h hdl hqp
      go_wp2_with (at_builtin; go_loud (refine wpList_append_own _ rfl _ _ 77 rfl w.heap.size 5 i0 (.int .u8 0) 1 1 Tryz.underlying77 hi hz0 hz1 hz2 rfl (by decide) _ s.length (Lib.byteCells s) rfl (HO.out.alloc _) ⟨wr.heap.size, 0, none⟩ 1 1 [.int .u8 (x : Int)] rfl rfl ?c1 ?c2 ?c3 ?c4 ?c5 ?_; (case c1 => exact cell_one_new _ _ _); (case c2 => intro u hu; simp at hu; subst hu; rfl); (case c3 => have := HLS.out; unfold maxLen; omega); (case c4 => have := HLS.out; omega); (case c5 => have := HB.out.size; simp; omega); intro v' w1 hown' hgrow _; have HB1 := Lib.hid (Below.grown (HB.out.alloc HB.out.size _) hgrow (by have := HB.out.size; simp; omega) (fun k hk => (HO.out.lt k hk).1)); rw [← Lib.byteCells_snoc s HD.out] at hown'; have HO1 := Lib.hid hown'; clear hown' hgrow))
      go_roundg q
      case measure => exact HQ.out.1
      case rel => exact ⟨q, s ++ [x.toUInt8], rfl, rfl, Lib.hid (by rw [List.length_append]; exact HO1.out), HS1, HB1, Lib.hid HQ.out.2⟩
theorem encVar_any (B b v : Nat) (l : List UInt8) (w : World) (h : Bf B b l w) (hv : v < 18446744073709551616) (hlim : l.length + 10 ≤ 140737488355328) :
    Calls Tryz.prog 77 #[.int .u64 v, bfI b] w fun e w' => e = .returned .nilIface ∧ Bf B b (l ++ Lib.uvarint v) w' ∧ Below B w w' ∧ Lib.OthersKept 5 (some b) w w' :=
  encVar_abs b v w hv _ fun a c w1 hb ha hat => (wrU_any B b l (Lib.uvarint v) a (Lib.uvarint v).length c w1 (h.old hb) rfl (by have := h.lt; omega) hat (by have := Lib.uvarint_length64 hv; omega)).mono fun e w' ⟨a1, a2, a3, a4⟩ =>
    ⟨a1, a2, Below.lower hb h.size a3, fun k o hk hkb ho => a4 k o ((hb.block k (blk_lt hk)).trans hk) hkb ho⟩
def u64of (t : Int) : Nat := (t % 18446744073709551616).toNat
theorem u64of_lt (t : Int) : u64of t < 18446744073709551616 := by unfold u64of; omega
theorem encVarI_abs (b : Nat) (t : Int) (w : World) (Q : World → Prop)
    (hW : Calls Tryz.prog 77 #[.int .u64 (u64of t), bfI b] w fun e w' => e = .returned .nilIface ∧ Q w') :
    Calls Tryz.prog 76 #[.int .i64 t, bfI b] w fun e w' => e = .returned .nilIface ∧ Q w' := by
  have e : (u64of t : Int) = t % 18446744073709551616 := by unfold u64of; omega
  rw [e] at hW
  have HW := Lib.hid hW
  clear e hW
  go_enter Tryz.func76, Tryz.ntmps76
  go_wp2_with (go_at_call 77; go_loud (refine HW.out.mono ?_; rintro e_ w2 ⟨rfl, hQ⟩; have HQ := Lib.hid hQ; clear hQ))
  go_ret
  exact ⟨rfl, HQ.out⟩
theorem encVarI_any (B b : Nat) (t : Int) (l : List UInt8) (w : World) (h : Bf B b l w) (hlim : l.length + 10 ≤ 140737488355328) :
    Calls Tryz.prog 76 #[.int .i64 t, bfI b] w fun e w' => e = .returned .nilIface ∧ Bf B b (l ++ Lib.uvarint (u64of t)) w' ∧ Below B w w' ∧ Lib.OthersKept 5 (some b) w w' :=
  encVarI_abs b t w _ (encVar_any B b (u64of t) l w h (u64of_lt t) hlim)
end Go.Proofs.YtgdbeiadlgkedaaGreatDoor
namespace Go.Proofs.YtgdbeiadlgkedaaGreatDoor
open Go.RowKit
set_option linter.unusedVariables false
set_option linter.unusedSimpArgs false
abbrev errV (p : Addr) : Value := .iface 234 (.pointer (some p))
theorem laidAt_get {cur : Array Value} {bs : List UInt8} {j : Nat} {x : UInt8} (h : bs[j]? = some x) : (laidAt cur 0 bs)[j]? = some (.int .u8 x.toNat) := by
  have hl := (List.getElem?_eq_some_iff.1 h).1
  simp only [laidAt, List.take_zero, List.nil_append, List.getElem?_toArray]
  rw [List.getElem?_append_left (by rw [cellsOf_len]; exact hl), cellsOf, List.getElem?_map, h]; rfl
def Fell (r g : Nat) (l : List UInt8) (w w' : World) (ev : Value) : Prop := w.grownBy w' (some r) ∧ Err ev w' ∧ ∃ i', Rd r g l i' w'
theorem Err.kept {v : Value} {w w' : World} (h : Err v w) (hk : ∀ k, k < w.heap.size → w'.heap[k]? = w.heap[k]?) : Err v w' := by
  obtain ⟨a, s, e1, e2, e3⟩ := h
  exact ⟨a, s, e1, (World.cell?_of_block (a := a) (hk _ (World.block_lt_of_cell? w a e2))).trans e2, e3⟩
theorem fix_ok (r g : Nat) (l : List UInt8) (i d n : Nat) (cur : Array Value) (T : TypeId) (w : World) (h : Rd r g l i w) (hn : 0 < n) (hi : i + n ≤ l.length) (hd : w.heap[d]? = some (.cells cur T (0, 0))) (hdr : d ≠ r) (hdg : d ≠ g) (hs : cur.size = n) :
    Calls Tryz.prog 106 #[rdI r, .slice (some ⟨d, 0, none⟩) n n] w fun e w' => e = .returned .nilIface ∧ Rd r g l (i + n) w' ∧ At w' ⟨d, 0, none⟩ ((l.drop i).take n) ∧ Two r d w w' :=
  (readNB_some r g l i d n n cur T w h (by omega) hd hdr hdg hi (by omega) hn (Nat.le_refl _)).mono fun e w' ⟨a1, a2, a3, a4⟩ => ⟨a1, a2, At.mk fun j x hj => (blk_cell a3 j).trans (laidAt_get hj), a4⟩
theorem fix_bad (B : Nat) (pe pl : Addr) (r g : Nat) (l : List UInt8) (i d n : Nat) (cur : Array Value) (T : TypeId) (w : World) (h : Rd r g l i w) (he : Env B pe pl w) (hBr : B ≤ r) (hBd : B ≤ d) (hn : 0 < n) (hn2 : n ≤ 4294967296) (hi : ¬ i + n ≤ l.length) (hd : w.heap[d]? = some (.cells cur T (0, 0))) (hdr : d ≠ r) (hdg : d ≠ g) (hs : cur.size = n) :
    Calls Tryz.prog 106 #[rdI r, .slice (some ⟨d, 0, none⟩) n n] w fun e w' => e = .returned (errV pe) ∧ Rd r g l l.length w' ∧ Two r d w w' := by
  have hle := h.le
  by_cases hi2 : i < l.length
  · exact readNB_few r g l i d n n cur T _ _ w h hi2 hd hdr hdg (by omega) (by omega) (Nat.le_refl _) he.eof (by have := he.b0; omega) (by have := he.b0; omega) hn2
  · obtain rfl : i = l.length := by omega
    exact (readNB_eof r g l d n n _ _ w h he.eof (Nat.le_refl _) hn).mono fun e w' ⟨a1, q, a2⟩ => ⟨a1, by rw [a2]; exact h.drewN q, by rw [a2]; exact (Two.refl r d w).drewN q⟩
theorem eight (l : List UInt8) (h : 8 ≤ l.length) : ∃ b0 b1 b2 b3 b4 b5 b6 b7, l.take 8 = [b0, b1, b2, b3, b4, b5, b6, b7] := by
  match l, h with
  | b0 :: b1 :: b2 :: b3 :: b4 :: b5 :: b6 :: b7 :: r, _ => exact ⟨b0, b1, b2, b3, b4, b5, b6, b7, rfl⟩
theorem four (l : List UInt8) (h : 4 ≤ l.length) : ∃ b0 b1 b2 b3, l.take 4 = [b0, b1, b2, b3] := by
  match l, h with
  | b0 :: b1 :: b2 :: b3 :: r, _ => exact ⟨b0, b1, b2, b3, rfl⟩
theorem At.get {w : World} {d : Nat} {l : List UInt8} (h : At w ⟨d, 0, none⟩ l) {j : Nat} {x : UInt8} (hj : l[j]? = some x) : w.cell? ⟨d, 0 + j, none⟩ = some (.int .u8 x.toNat) := by
  have := h j x hj
  rwa [Lib.addr_add] at this
theorem get64_any (d : Nat) (l : List UInt8) (w : World) (hl : 8 ≤ l.length) (h : At w ⟨d, 0, none⟩ (l.take 8)) :
    Calls Tryz.prog 108 #[.agg #[], .slice (some ⟨d, 0, none⟩) 8 8] w fun e w' => e = .returned (.int .u64 (Lib.beNat (l.take 8) : Nat)) ∧ Below w.heap.size w w' := by
  obtain ⟨b0, b1, b2, b3, b4, b5, b6, b7, e⟩ := eight l hl
  rw [e] at h ⊢
  exact Tryz.binary_BE_Uint64 d 0 8 8 b0 b1 b2 b3 b4 b5 b6 b7 w (by decide) (h.get (j := 0) rfl) (h.get (j := 1) rfl) (h.get (j := 2) rfl) (h.get (j := 3) rfl) (h.get (j := 4) rfl) (h.get (j := 5) rfl) (h.get (j := 6) rfl) (h.get (j := 7) rfl)
theorem get32_any (d : Nat) (l : List UInt8) (w : World) (hl : 4 ≤ l.length) (h : At w ⟨d, 0, none⟩ (l.take 4)) :
    Calls Tryz.prog 109 #[.agg #[], .slice (some ⟨d, 0, none⟩) 4 4] w fun e w' => e = .returned (.int .u32 (Lib.beNat (l.take 4) : Nat)) ∧ Below w.heap.size w w' := by
  obtain ⟨b0, b1, b2, b3, e⟩ := four l hl
  rw [e] at h ⊢
  exact Tryz.binary_BE_Uint32 d 0 4 4 b0 b1 b2 b3 w (by decide) (h.get (j := 0) rfl) (h.get (j := 1) rfl) (h.get (j := 2) rfl) (h.get (j := 3) rfl)
theorem Rd.ge {r g : Nat} {l : List UInt8} {i : Nat} {w : World} (h : Rd r g l i w) (o : Obj) : w.heap.size ≠ r ∧ w.heap.size ≠ g := ⟨by have := h.lt; omega, by have := h.ltg; omega⟩
set_option maxHeartbeats 2000000 in
set_option maxRecDepth 100000 in
theorem decU64_ok (r g : Nat) (l : List UInt8) (i : Nat) (w : World) (h : Rd r g l i w) (hi : i + 8 ≤ l.length) :
    Calls Tryz.prog 90 #[rdI r] w fun e w' => e = .returned (.tuple #[.int .u64 (Lib.beNat ((l.drop i).take 8) : Nat), .nilIface]) ∧ w.grownBy w' (some r) ∧ Rd r g l (i + 8) w' := by
  have hne := h.ge (.cells #[] 0)
  have hC := fix_ok r g l i w.heap.size 8 _ _ _ (h.alloc (.cells #[.int .u8 0, .int .u8 0, .int .u8 0, .int .u8 0, .int .u8 0, .int .u8 0, .int .u8 0, .int .u8 0] 219)) (by decide) hi (heap_alloc_new w _) hne.1 hne.2 rfl
  have HC := Lib.hid hC
  have HI := Lib.hid (show 8 ≤ (l.drop i).length by rw [List.length_drop]; omega)
  clear hC h hne hi
  go_enter Tryz.func90, Tryz.ntmps90
  go_wp2_with (go_at_call 106; go_loud (refine HC.out.mono ?_; rintro e_ w1 ⟨rfl, h1, h2, h3⟩; have H1 := Lib.hid h1; have H2 := Lib.hid h2; have HG := Lib.hid (Two.grown (grown_alloc (grown_refl (r := r) w) _) h3 (Nat.le_refl _)); clear h1 h2 h3))
  go_region_with (go_at_call 108; refine (get64_any w.heap.size (l.drop i) _ HI.out ?ha).mono ?_; (case ha => exact H2.out); rintro e_ w2 ⟨rfl, hb⟩; have HB := Lib.hid hb; clear hb)
  all_goals
    go_wp2
    go_ret2
    exact ⟨rfl, Lib.grownBy_below (grown_drewN HG.out 1) HB.out, (H1.out.drewN 1).below HB.out⟩
set_option maxHeartbeats 2000000 in
set_option maxRecDepth 100000 in
theorem decU64_bad (B : Nat) (pe pl : Addr) (r g : Nat) (l : List UInt8) (i : Nat) (w : World) (h : Rd r g l i w) (he : Env B pe pl w) (hBr : B ≤ r) (hi : ¬ i + 8 ≤ l.length) :
    Calls Tryz.prog 90 #[rdI r] w fun e w' => ∃ ev, e = .returned (.tuple #[.int .u64 0, ev]) ∧ Fell r g l w w' ev := by
  have hne := h.ge (.cells #[] 0)
  have hrw := h.lt
  have hC := fix_bad B pe pl r g l i w.heap.size 8 _ _ _ (h.alloc (.cells #[.int .u8 0, .int .u8 0, .int .u8 0, .int .u8 0, .int .u8 0, .int .u8 0, .int .u8 0, .int .u8 0] 219)) (he.below ((Below.refl B w).alloc (by omega) _)) hBr (by omega) (by decide) (by decide) hi (heap_alloc_new w _) hne.1 hne.2 rfl
  have HC := Lib.hid hC
  have HE := Lib.hid he
  have HR := Lib.hid (And.intro hBr hrw)
  clear hC h hne hi he hBr hrw
  go_enter Tryz.func90, Tryz.ntmps90
  go_wp2_with (go_at_call 106; go_loud (refine HC.out.mono ?_; rintro e_ w1 ⟨rfl, h1, h3⟩; have H1 := Lib.hid h1; have HG := Lib.hid (Two.grown (grown_alloc (grown_refl (r := r) w) _) h3 (Nat.le_refl _)); clear h1 h3))
  go_ret2
  exact ⟨errV pe, rfl, HG.out, (HE.out.below (grown_below HG.out (by have := HR.out; omega) HR.out.1)).errE, _, H1.out⟩
set_option maxHeartbeats 2000000 in
set_option maxRecDepth 100000 in
theorem decU32_ok (r g : Nat) (l : List UInt8) (i : Nat) (w : World) (h : Rd r g l i w) (hi : i + 4 ≤ l.length) :
    Calls Tryz.prog 89 #[rdI r] w fun e w' => e = .returned (.tuple #[.int .u32 (Lib.beNat ((l.drop i).take 4) : Nat), .nilIface]) ∧ w.grownBy w' (some r) ∧ Rd r g l (i + 4) w' := by
  have hne := h.ge (.cells #[] 0)
  have hC := fix_ok r g l i w.heap.size 4 _ _ _ (h.alloc (.cells #[.int .u8 0, .int .u8 0, .int .u8 0, .int .u8 0] 223)) (by decide) hi (heap_alloc_new w _) hne.1 hne.2 rfl
  have HC := Lib.hid hC
  have HI := Lib.hid (show 4 ≤ (l.drop i).length by rw [List.length_drop]; omega)
  clear hC h hne hi
  go_enter Tryz.func89, Tryz.ntmps89
  go_wp2_with (go_at_call 106; go_loud (refine HC.out.mono ?_; rintro e_ w1 ⟨rfl, h1, h2, h3⟩; have H1 := Lib.hid h1; have H2 := Lib.hid h2; have HG := Lib.hid (Two.grown (grown_alloc (grown_refl (r := r) w) _) h3 (Nat.le_refl _)); clear h1 h2 h3))
  go_region_with (go_at_call 109; refine (get32_any w.heap.size (l.drop i) _ HI.out ?ha).mono ?_; (case ha => exact H2.out); rintro e_ w2 ⟨rfl, hb⟩; have HB := Lib.hid hb; clear hb)
  all_goals
    go_wp2
    go_ret2
    exact ⟨rfl, Lib.grownBy_below (grown_drewN HG.out 1) HB.out, (H1.out.drewN 1).below HB.out⟩
set_option maxHeartbeats 2000000 in
set_option maxRecDepth 100000 in
theorem decU32_bad (B : Nat) (pe pl : Addr) (r g : Nat) (l : List UInt8) (i : Nat) (w : World) (h : Rd r g l i w) (he : Env B pe pl w) (hBr : B ≤ r) (hi : ¬ i + 4 ≤ l.length) :
    Calls Tryz.prog 89 #[rdI r] w fun e w' => ∃ ev, e = .returned (.tuple #[.int .u32 0, ev]) ∧ Fell r g l w w' ev := by
  have hne := h.ge (.cells #[] 0)
  have hrw := h.lt
  have hC := fix_bad B pe pl r g l i w.heap.size 4 _ _ _ (h.alloc (.cells #[.int .u8 0, .int .u8 0, .int .u8 0, .int .u8 0] 223)) (he.below ((Below.refl B w).alloc (by omega) _)) hBr (by omega) (by decide) (by decide) hi (heap_alloc_new w _) hne.1 hne.2 rfl
  have HC := Lib.hid hC
  have HE := Lib.hid he
  have HR := Lib.hid (And.intro hBr hrw)
  clear hC h hne hi he hBr hrw
  go_enter Tryz.func89, Tryz.ntmps89
  go_wp2_with (go_at_call 106; go_loud (refine HC.out.mono ?_; rintro e_ w1 ⟨rfl, h1, h3⟩; have H1 := Lib.hid h1; have HG := Lib.hid (Two.grown (grown_alloc (grown_refl (r := r) w) _) h3 (Nat.le_refl _)); clear h1 h3))
  go_ret2
  exact ⟨errV pe, rfl, HG.out, (HE.out.below (grown_below HG.out (by have := HR.out; omega) HR.out.1)).errE, _, H1.out⟩
theorem decI32_ok (r g : Nat) (l : List UInt8) (i : Nat) (w : World) (h : Rd r g l i w) (hi : i + 4 ≤ l.length) :
    Calls Tryz.prog 84 #[rdI r] w fun e w' => e = .returned (.tuple #[.int .i32 (wrap32 (Lib.beNat ((l.drop i).take 4) : Nat)), .nilIface]) ∧ w.grownBy w' (some r) ∧ Rd r g l (i + 4) w' := by
  have HC := Lib.hid (decU32_ok r g l i w h hi)
  clear h hi
  go_enter Tryz.func84, Tryz.ntmps84
  go_wp2_with (go_at_call 89; go_loud (refine HC.out.mono ?_; rintro e_ w1 ⟨rfl, h1⟩; have H1 := Lib.hid h1; clear h1))
  go_ret2
  exact ⟨rfl, H1.out⟩
theorem decI32_bad (B : Nat) (pe pl : Addr) (r g : Nat) (l : List UInt8) (i : Nat) (w : World) (h : Rd r g l i w) (he : Env B pe pl w) (hBr : B ≤ r) (hi : ¬ i + 4 ≤ l.length) :
    Calls Tryz.prog 84 #[rdI r] w fun e w' => ∃ ev, e = .returned (.tuple #[.int .i32 0, ev]) ∧ Fell r g l w w' ev := by
  have HC := Lib.hid (decU32_bad B pe pl r g l i w h he hBr hi)
  clear h hi he hBr
  go_enter Tryz.func84, Tryz.ntmps84
  go_wp2_with (go_at_call 89; go_loud (refine HC.out.mono ?_; rintro e_ w1 ⟨ev, rfl, h1⟩; obtain ⟨a, s, rfl, h2⟩ : ∃ a s, ev = errV a ∧ Hid (w1.cell? a = some (.string s) ∧ s.data.toList ≠ []) := (by obtain ⟨a, s, e1, e2, e3⟩ := h1.2.1; exact ⟨a, s, e1, Lib.hid ⟨e2, e3⟩⟩); have H1 := Lib.hid h1; clear h1))
  go_ret2
  exact ⟨errV a, rfl, H1.out⟩
theorem decTime_ok (r g : Nat) (l : List UInt8) (i : Nat) (w : World) (h : Rd r g l i w) (hi : i + 8 ≤ l.length) :
    Calls Tryz.prog 83 #[rdI r] w fun e w' => e = .returned (.tuple #[.int .i64 (wrap64 (wrap64 (Lib.beNat ((l.drop i).take 8) : Nat) + -9223372036854775808)), .nilIface]) ∧ w.grownBy w' (some r) ∧ Rd r g l (i + 8) w' := by
  have HC := Lib.hid (decU64_ok r g l i w h hi)
  clear h hi
  go_enter Tryz.func83, Tryz.ntmps83
  go_wp2_with (go_at_call 90; go_loud (refine HC.out.mono ?_; rintro e_ w1 ⟨rfl, h1⟩; have H1 := Lib.hid h1; clear h1))
  go_ret2
  exact ⟨rfl, H1.out⟩
theorem decTime_bad (B : Nat) (pe pl : Addr) (r g : Nat) (l : List UInt8) (i : Nat) (w : World) (h : Rd r g l i w) (he : Env B pe pl w) (hBr : B ≤ r) (hi : ¬ i + 8 ≤ l.length) :
    Calls Tryz.prog 83 #[rdI r] w fun e w' => ∃ ev, e = .returned (.tuple #[.int .i64 0, ev]) ∧ Fell r g l w w' ev := by
  have HC := Lib.hid (decU64_bad B pe pl r g l i w h he hBr hi)
  clear h hi he hBr
  go_enter Tryz.func83, Tryz.ntmps83
  go_wp2_with (go_at_call 90; go_loud (refine HC.out.mono ?_; rintro e_ w1 ⟨ev, rfl, h1⟩; obtain ⟨a, s, rfl, h2⟩ : ∃ a s, ev = errV a ∧ Hid (w1.cell? a = some (.string s) ∧ s.data.toList ≠ []) := (by obtain ⟨a, s, e1, e2, e3⟩ := h1.2.1; exact ⟨a, s, e1, Lib.hid ⟨e2, e3⟩⟩); have H1 := Lib.hid h1; clear h1))
  go_ret2
  exact ⟨errV a, rfl, H1.out⟩
theorem decVarI_ok (B : Nat) (pe pl : Addr) (r g : Nat) (l : List UInt8) (i v k : Nat) (w : World) (h : Rd r g l i w) (he : Env B pe pl w) (hBr : B ≤ r) (hR : vrd 0 0 (l.drop i) = some (v, k)) :
    Calls Tryz.prog 91 #[rdI r] w fun e w' => e = .returned (.tuple #[.int .i64 (wrap64 (v : Nat)), .nilIface]) ∧ w.grownBy w' (some r) ∧ Rd r g l (i + k) w' := by
  have HC := Lib.hid (decVar_any B pe pl r g l i w h he hBr _ hR)
  clear h hR he hBr
  go_enter Tryz.func91, Tryz.ntmps91
  go_wp2_with (go_at_call 92; go_loud (refine HC.out.mono ?_; rintro e_ w1 ⟨hg, ⟨v', k', hvk, rfl, h1⟩ | ⟨hn, _⟩⟩; rotate_left; exact absurd hn (by simp); obtain ⟨rfl, rfl⟩ : v = v' ∧ k = k' := (by simpa using hvk); have H1 := Lib.hid (And.intro hg h1); clear h1 hg hvk))
  go_ret2
  exact ⟨rfl, H1.out⟩
theorem decVarI_bad (B : Nat) (pe pl : Addr) (r g : Nat) (l : List UInt8) (i : Nat) (w : World) (h : Rd r g l i w) (he : Env B pe pl w) (hBr : B ≤ r) (hR : vrd 0 0 (l.drop i) = none) :
    Calls Tryz.prog 91 #[rdI r] w fun e w' => ∃ ev, e = .returned (.tuple #[.int .i64 0, ev]) ∧ Fell r g l w w' ev := by
  have HC := Lib.hid (decVar_any B pe pl r g l i w h he hBr _ hR)
  clear h hR he hBr
  go_enter Tryz.func91, Tryz.ntmps91
  go_wp2_with (go_at_call 92; go_loud (refine HC.out.mono ?_; rintro e_ w1 ⟨hg, ⟨v', k', hvk, rfl, h1⟩ | ⟨_, ev, i', rfl, h1, h2⟩⟩; exact absurd hvk (by simp); obtain ⟨a, s, rfl, h3⟩ : ∃ a s, ev = errV a ∧ Hid (w1.cell? a = some (.string s) ∧ s.data.toList ≠ []) := (by obtain ⟨a, s, e1, e2, e3⟩ := h1; exact ⟨a, s, e1, Lib.hid ⟨e2, e3⟩⟩); have H1 := Lib.hid (And.intro hg (And.intro h1 h2)); clear h1 h2 hg))
  go_ret2
  exact ⟨errV a, rfl, H1.out.1, H1.out.2.1, i', H1.out.2.2⟩
end Go.Proofs.YtgdbeiadlgkedaaGreatDoor
namespace Go.Proofs.YtgdbeiadlgkedaaGreatDoor
open Go.RowKit
set_option linter.unusedVariables false
set_option linter.unusedSimpArgs false
theorem word_nil (w : World) : Calls Tryz.prog 41 #[.nilIface] w fun e w' => e = .returned (.string ⟨#[]⟩) ∧ w = w' := by
  go_enter Tryz.func41, Tryz.ntmps41
  go_wp2
  go_ret
  exact ⟨rfl, rfl⟩
theorem errText_any (a : Addr) (s : ByteArray) (w : World) (h : w.cell? a = some (.string s)) : Calls Tryz.prog 172 #[.pointer (some a)] w fun e w' => e = .returned (.string s) ∧ w = w' := by
  go_enter Tryz.func172, Tryz.ntmps172
  go_wp2
  go_ret
  exact ⟨rfl, rfl⟩
theorem word_err (a : Addr) (s : ByteArray) (w : World) (h : w.cell? a = some (.string s)) : Calls Tryz.prog 41 #[errV a] w fun e w' => e = .returned (.string s) ∧ w = w' := by
  have HC := Lib.hid (errText_any a s w h)
  clear h
  go_enter Tryz.func41, Tryz.ntmps41
  go_wp2_with (go_at_call 172; go_loud (refine HC.out.mono ?_; rintro e_ w1 ⟨rfl, rfl⟩))
  go_ret
  exact ⟨rfl, rfl⟩
theorem fresh_Bf (w : World) : Bf w.heap.size w.heap.size [] (w.alloc (.cells #[.slice none 0 0, .int .i64 0, .int .i8 0] 105)) := Lib.fresh_isBuffer _ _ w
theorem string_any (B b : Nat) (l : List UInt8) (w : World) (h : Bf B b l w) : Calls Tryz.prog 49 #[.pointer (some ⟨b, 0, none⟩)] w fun e w' => e = .returned (.string ⟨l.toArray⟩) ∧ ∃ n, w' = w.drewN n := Tryz.Buffer_String B b l w h
theorem enc_below {w w2 w3 : World} {o o2 : Obj} {n : Nat} (h : Below (w.heap.size + 1) ((w.alloc o).alloc o2) w2) (h3 : w3 = w2.drewN n) : Below w.heap.size w w3 := by
  subst h3
  have h0 : Below w.heap.size w ((w.alloc o).alloc o2) := ((Below.refl _ w).alloc (Nat.le_refl _) _).alloc (by simp) _
  have h1 := h0.trans (h.mono (by simp))
  exact ⟨h1.os, h1.tape, h1.output, h1.size, h1.block⟩
set_option maxHeartbeats 4000000 in
set_option maxRecDepth 100000 in
theorem encVal_11 (fl : Bool) (n u b : Int) (t : ByteArray) (pt : Int) (pf pl : Bool) (pi pn : Int) (w : World) :
    Calls Tryz.prog 34 #[.agg #[.int .i64 11, .bool fl, .int .i64 n, .int .u64 u, .int .u64 b, .string t, .int .i64 pt, .bool pf, .bool pl, .int .i64 pi, .int .i64 pn]] w fun e w' => e = .returned (.tuple #[.string ⟨(Lib.uvarint (u64of n)).toArray⟩, .string ⟨#[]⟩]) ∧ Below w.heap.size w w' := by
  have hF : Bf (w.heap.size + 1) (w.heap.size + 1) [] ((w.alloc (.cells #[.int .i64 11, .bool fl, .int .i64 n, .int .u64 u, .int .u64 b, .string t, .int .i64 pt, .bool pf, .bool pl, .int .i64 pi, .int .i64 pn] 73)).alloc (.cells #[.slice none 0 0, .int .i64 0, .int .i8 0] 105)) := by
    have := fresh_Bf (w.alloc (.cells #[.int .i64 11, .bool fl, .int .i64 n, .int .u64 u, .int .u64 b, .string t, .int .i64 pt, .bool pf, .bool pl, .int .i64 pi, .int .i64 pn] 73)); rwa [World.size_alloc] at this
  have HC := Lib.hid (encVarI_any _ _ n [] _ hF (by decide))
  clear hF
  go_enter Tryz.func34, Tryz.ntmps34
  go_wp2_with (first
    | (go_at_call 76; go_loud (refine HC.out.mono ?_; rintro e_ w1 ⟨rfl, h1, h2, _⟩; have H1 := Lib.hid h1; have H2 := Lib.hid h2; clear h1 h2))
    | (go_at_call 49; refine (string_any _ _ _ _ H1.out).mono ?_; rintro e_ w2 ⟨rfl, q2, hq⟩; have HQ := Lib.hid (enc_below H2.out hq); clear hq)
    | (go_at_call 41; refine (word_nil _).mono ?_; rintro e_ w3 ⟨rfl, rfl⟩))
  all_goals (go_ret2; exact ⟨rfl, HQ.out⟩)
end Go.Proofs.YtgdbeiadlgkedaaGreatDoor
