/- Contracts and plain laws, several texts in one. -/
import Derived.Test.YtgdbeiadlgkedaaDoorMRowBack2
import Derived.Lib.BufferOld
import Derived.Lib.BufferKept
import Derived.Lib.BufferWrite
import Derived.Lib.VarintMem
import Derived.Laws.AppendOwn
import Derived.LoopTactic
import Derived.Deep.LoopGhost
import Derived.OwnWalk
import Derived.Laws.Bits64b
/- Contracts: what is written into a bytes.Buffer of the call's own. -/
namespace Go.Proofs.YtgdbeiadlgkedaaDoor
open Go.RowKit
set_option linter.unusedVariables false
set_option linter.unusedSimpArgs false

/-- A buffer of the call's own, in block b, that holds the bytes l. -/
abbrev Bf (B b : Nat) (l : List UInt8) (w : World) : Prop := Lib.IsBuffer 129 5 B b (Lib.byteCells l) w
abbrev bfI (b : Nat) : Value := .iface 131 (.pointer (some ⟨b, 0, none⟩))
theorem Bf.size {B b : Nat} {l : List UInt8} {w : World} (h : Bf B b l w) : B ≤ w.heap.size := Nat.le_trans h.1 (Nat.le_of_lt h.lt)
/-- The cells at a are the bytes l. -/
def At (w : World) (a : Addr) (l : List UInt8) : Prop := ∀ j x, l[j]? = some x → w.cell? (a.add j) = some (.int .u8 x.toNat)
theorem At.cells {w : World} {a : Addr} {l : List UInt8} (h : At w a l) : ∀ j v, (Lib.byteCells l)[j]? = some v → w.cell? (a.add j) = some v := by
  intro j v hj
  obtain ⟨x, hx, rfl⟩ := cellsOf_get (l := l) hj
  exact h j x hx
theorem At.kept {w w' : World} {a : Addr} {l : List UInt8} (h : At w a l) (hk : w'.heap[a.block]? = w.heap[a.block]?) : At w' a l := by
  intro j x hj
  have e : (a.add j).block = a.block := by unfold Addr.add; split <;> rfl
  exact (World.cell?_of_block (a := a.add j) (by rw [e]; exact hk)).trans (h j x hj)
theorem At.mk {w : World} {b : Nat} {l : List UInt8} (h : ∀ j x, l[j]? = some x → w.cell? ⟨b, j, none⟩ = some (.int .u8 x.toNat)) : At w ⟨b, 0, none⟩ l := by
  intro j x hj
  rw [Lib.addr_add, Nat.zero_add]
  exact h j x hj
theorem write_any (B b : Nat) (l l2 : List UInt8) (a : Addr) (n c : Nat) (w : World) (h : Bf B b l w) (hn : l2.length = n) (hab : a.block ≠ b) (hsrc : At w a l2) (hlim : l.length + n ≤ 140737488355328) :
    Calls Tryd.prog 132 #[.pointer (some ⟨b, 0, none⟩), .slice (some a) n c] w fun e w' => e = .returned (.tuple #[.int .i64 n, .nilIface]) ∧ Bf B b (l ++ l2) w' ∧ Below B w w' ∧ Lib.OthersKept 5 (some b) w w' :=
  (Tryd.Buffer_Write_any B b (Lib.byteCells l) (Lib.byteCells l2) a n c w h h.size (Lib.byteCells_one _) (by rw [Lib.byteCells_length]; exact hn) hab hsrc.cells (Lib.byteCells_one _) (by rw [Lib.byteCells_length]; exact hlim)).mono fun e w' ⟨a1, a2, a3, a4⟩ => ⟨a1, by rw [← Lib.byteCells_append] at a2; exact a2, a3, a4⟩
theorem wrU_any (B b : Nat) (l l2 : List UInt8) (a : Addr) (n c : Nat) (w : World) (h : Bf B b l w) (hn : l2.length = n) (hab : a.block ≠ b) (hsrc : At w a l2) (hlim : l.length + n ≤ 140737488355328) :
    Calls Tryd.prog 102 #[bfI b, .slice (some a) n c] w fun e w' => e = .returned (.tuple #[.int .i64 n, .nilIface]) ∧ Bf B b (l ++ l2) w' ∧ Below B w w' ∧ Lib.OthersKept 5 (some b) w w' := by
  have hC := write_any B b l l2 a n c w h hn hab hsrc hlim
  clear h hsrc hn hab hlim
  go_enter Tryd.func102, Tryd.ntmps102
  go_wp2_with (go_at_call 132; refine hC.mono ?_; rintro e_ w1 ⟨rfl, h1⟩; have H1 := Lib.hid h1; clear h1)
  go_ret2
  exact ⟨rfl, H1.out⟩
theorem byteArr (d : Nat) (cur : Array Value) (T : TypeId) (w : World) (hd : w.heap[d]? = some (.cells cur T (0, 0))) (vs : List UInt8) (hs : vs.length ≤ cur.size) :
    At (w.setCells d 0 (Lib.byteCells vs)) ⟨d, 0, none⟩ vs ∧ Two d d w (w.setCells d 0 (Lib.byteCells vs)) := by
  refine ⟨At.mk fun j x hj => ?_, ?_⟩
  · have hlt : j < vs.length := (List.getElem?_eq_some_iff.1 hj).1
    have := World.cell?_setCells_in d (Lib.byteCells vs) 0 w (fun i hi => by
      rw [Lib.byteCells_length] at hi
      rw [Nat.zero_add, blk_cell hd i]
      simp; omega) j (by rw [Lib.byteCells_length]; exact hlt)
    rw [Nat.zero_add] at this
    rw [this]
    have e := (List.getElem?_eq_some_iff.1 hj).2
    simp [Lib.byteCells, e]
  · have : ∀ (vs : List Value) (o : Nat) (w' : World), Two d d w w' → Two d d w (w'.setCells d o vs) := by
      intro vs
      induction vs with
      | nil => intro o w' h; exact h
      | cons v r ih => intro o w' h; exact ih (o + 1) _ (h.set _ _ (.inl rfl))
    exact this _ _ _ (Two.refl d d w)
theorem Two.alloc {r d : Nat} {w w' : World} (h : Two r d w w') (o : Obj) : Two r d w (w'.alloc o) :=
  ⟨h.os, h.tape, h.output, Nat.le_trans h.size (by simp), fun k hk a b => (Below.heap_alloc w' o k (Nat.lt_of_lt_of_le hk h.size)).trans (h.block k hk a b)⟩
/-- Block d is an array of n cells. -/
def Arr (w : World) (d n : Nat) : Prop := ∃ cur T, w.heap[d]? = some (.cells cur T (0, 0)) ∧ cur.size = n
theorem Arr.new (w : World) (cur : Array Value) (T : TypeId) : Arr (w.alloc (.cells cur T)) w.heap.size cur.size := ⟨cur, T, heap_alloc_new w _, rfl⟩
/-- PutUint64 into an array of eight bytes. -/
theorem put64_any (d v : Nat) (w : World) (ha : Arr w d 8) (hv : v < 18446744073709551616) :
    Calls Tryd.prog 103 #[.agg #[], .slice (some ⟨d, 0, none⟩) 8 8, .int .u64 v] w fun e w' => e = .returned (.tuple #[]) ∧ At w' ⟨d, 0, none⟩ (Lib.beBytes 8 v) ∧ Two d d w w' := by
  obtain ⟨cur, T, hd, hs⟩ := ha
  have cs : ∀ i, i < 8 → ∃ x, w.cell? ⟨d, i, none⟩ = some x := fun i hi => ⟨cur[i], by rw [blk_cell hd i]; simp [hs, hi]⟩
  have fs : ∀ i, w.frozen? ⟨d, i, none⟩ = false := fun i => blk_frozen hd i
  obtain ⟨x0, c0⟩ := cs 0 (by decide)
  obtain ⟨x1, c1⟩ := cs 1 (by decide)
  obtain ⟨x2, c2⟩ := cs 2 (by decide)
  obtain ⟨x3, c3⟩ := cs 3 (by decide)
  obtain ⟨x4, c4⟩ := cs 4 (by decide)
  obtain ⟨x5, c5⟩ := cs 5 (by decide)
  obtain ⟨x6, c6⟩ := cs 6 (by decide)
  obtain ⟨x7, c7⟩ := cs 7 (by decide)
  refine (Tryd.binary_BE_PutUint64 d 0 8 8 v hv x0 x1 x2 x3 x4 x5 x6 x7 w (by decide) c0 c1 c2 c3 c4 c5 c6 c7 (fs 0) (fs 1) (fs 2) (fs 3) (fs 4) (fs 5) (fs 6) (fs 7)).mono fun e w' ⟨he, hw⟩ => ?_
  have hd' : (w.alloc (.cells #[] 166)).heap[d]? = some (.cells cur T (0, 0)) := (Below.heap_alloc w _ d (blk_lt hd)).trans hd
  obtain ⟨r1, r2⟩ := byteArr d cur T _ hd' (Lib.beBytes 8 v) (by rw [Lib.beBytes_length]; omega)
  subst hw
  exact ⟨he, r1, ((Two.refl d d w).alloc _).trans r2⟩
theorem put32_any (d v : Nat) (w : World) (ha : Arr w d 4) (hv : v < 4294967296) :
    Calls Tryd.prog 105 #[.agg #[], .slice (some ⟨d, 0, none⟩) 4 4, .int .u32 v] w fun e w' => e = .returned (.tuple #[]) ∧ At w' ⟨d, 0, none⟩ (Lib.beBytes 4 v) ∧ Two d d w w' := by
  obtain ⟨cur, T, hd, hs⟩ := ha
  have cs : ∀ i, i < 4 → ∃ x, w.cell? ⟨d, i, none⟩ = some x := fun i hi => ⟨cur[i], by rw [blk_cell hd i]; simp [hs, hi]⟩
  have fs : ∀ i, w.frozen? ⟨d, i, none⟩ = false := fun i => blk_frozen hd i
  obtain ⟨x0, c0⟩ := cs 0 (by decide)
  obtain ⟨x1, c1⟩ := cs 1 (by decide)
  obtain ⟨x2, c2⟩ := cs 2 (by decide)
  obtain ⟨x3, c3⟩ := cs 3 (by decide)
  refine (Tryd.binary_BE_PutUint32 d 0 4 4 v hv x0 x1 x2 x3 w (by decide) c0 c1 c2 c3 (fs 0) (fs 1) (fs 2) (fs 3)).mono fun e w' ⟨he, hw⟩ => ?_
  have hd' : (w.alloc (.cells #[] 166)).heap[d]? = some (.cells cur T (0, 0)) := (Below.heap_alloc w _ d (blk_lt hd)).trans hd
  obtain ⟨r1, r2⟩ := byteArr d cur T _ hd' (Lib.beBytes 4 v) (by rw [Lib.beBytes_length]; omega)
  subst hw
  exact ⟨he, r1, ((Two.refl d d w).alloc _).trans r2⟩
/-- Behind an array of the call's own nothing else has turned. -/
theorem Two.below {d : Nat} {w0 w w' : World} (h : Two d d w w') (hb : Below w0.heap.size w0 w) (hd : w0.heap.size ≤ d) : Below w0.heap.size w0 w' :=
  ⟨h.os.trans hb.os, h.tape.trans hb.tape, h.output.trans hb.output, Nat.le_trans hb.size h.size, fun k hk => (h.block k (Nat.lt_of_lt_of_le hk hb.size) (by omega) (by omega)).trans (hb.block k hk)⟩
theorem Below.lower {B : Nat} {w0 w w' : World} (hb : Below w0.heap.size w0 w) (hB : B ≤ w0.heap.size) (h : Below B w w') : Below B w0 w' := (hb.mono hB).trans h
set_option maxHeartbeats 2000000 in
set_option maxRecDepth 100000 in
theorem encU64_any (B b v : Nat) (l : List UInt8) (w : World) (h : Bf B b l w) (hv : v < 18446744073709551616) (hlim : l.length + 8 ≤ 140737488355328) :
    Calls Tryd.prog 81 #[.int .u64 v, bfI b] w fun e w' => e = .returned .nilIface ∧ Bf B b (l ++ Lib.beBytes 8 v) w' ∧ Below B w w' := by
  have H := Lib.hid h
  have HV := Lib.hid hv
  have HL := Lib.hid hlim
  clear h hv hlim
  go_enter Tryd.func81, Tryd.ntmps81
  go_wp2
  go_region_with (go_at_call 103; refine (put64_any w.heap.size v _ ?hd HV.out).mono ?_; (case hd => exact ⟨_, _, heap_alloc_new w _, rfl⟩); rintro e_ w1 ⟨rfl, h1, h2⟩; have H1 := Lib.hid h1; have HB := Lib.hid (h2.below (((Below.refl _ w).alloc (Nat.le_refl _) _).drew) (Nat.le_refl _)); clear h1 h2)
  go_wp2_with (go_at_call 102; refine (wrU_any B b l (Lib.beBytes 8 v) ⟨w.heap.size, 0, none⟩ 8 8 w1 (H.out.old HB.out) (Lib.beBytes_length _ _) (by have := H.out.lt; show w.heap.size ≠ b; omega) H1.out HL.out).mono ?_; rintro e_ w2 ⟨rfl, h3, h4, h5⟩; have H2 := Lib.hid (And.intro h3 (Below.lower HB.out H.out.size h4)); clear h3 h4 h5)
  go_ret
  exact ⟨rfl, H2.out⟩
set_option maxHeartbeats 2000000 in
set_option maxRecDepth 100000 in
theorem encU32_any (B b v : Nat) (l : List UInt8) (w : World) (h : Bf B b l w) (hv : v < 4294967296) (hlim : l.length + 4 ≤ 140737488355328) :
    Calls Tryd.prog 80 #[.int .u32 v, bfI b] w fun e w' => e = .returned .nilIface ∧ Bf B b (l ++ Lib.beBytes 4 v) w' ∧ Below B w w' := by
  have H := Lib.hid h
  have HV := Lib.hid hv
  have HL := Lib.hid hlim
  clear h hv hlim
  go_enter Tryd.func80, Tryd.ntmps80
  go_wp2
  go_region_with (go_at_call 105; refine (put32_any w.heap.size v _ ?hd HV.out).mono ?_; (case hd => exact ⟨_, _, heap_alloc_new w _, rfl⟩); rintro e_ w1 ⟨rfl, h1, h2⟩; have H1 := Lib.hid h1; have HB := Lib.hid (h2.below (((Below.refl _ w).alloc (Nat.le_refl _) _).drew) (Nat.le_refl _)); clear h1 h2)
  go_wp2_with (go_at_call 102; refine (wrU_any B b l (Lib.beBytes 4 v) ⟨w.heap.size, 0, none⟩ 4 4 w1 (H.out.old HB.out) (Lib.beBytes_length _ _) (by have := H.out.lt; show w.heap.size ≠ b; omega) H1.out HL.out).mono ?_; rintro e_ w2 ⟨rfl, h3, h4, h5⟩; have H2 := Lib.hid (And.intro h3 (Below.lower HB.out H.out.size h4)); clear h3 h4 h5)
  go_ret
  exact ⟨rfl, H2.out⟩
set_option maxHeartbeats 2000000 in
set_option maxRecDepth 100000 in
theorem encF64_any (B b v : Nat) (l : List UInt8) (w : World) (h : Bf B b l w) (hv : v < 18446744073709551616) (hlim : l.length + 8 ≤ 140737488355328) :
    Calls Tryd.prog 71 #[.float .f64 v, bfI b] w fun e w' => e = .returned .nilIface ∧ Bf B b (l ++ Lib.beBytes 8 v) w' ∧ Below B w w' := by
  have H := Lib.hid h
  have HV := Lib.hid hv
  have HL := Lib.hid hlim
  clear h hv hlim
  have fb : ∀ W, (callFunc 50 #[.float .f64 v]).run Tryd.prog W = .ok (.value (.int .u64 v)) W := fun _ => by kernel_rfl
  go_enter Tryd.func71, Tryd.ntmps71
  go_wp2
  go_region_with (go_at_call 103; refine (put64_any w.heap.size v _ ?hd HV.out).mono ?_; (case hd => exact ⟨_, _, heap_alloc_new w _, rfl⟩); rintro e_ w1 ⟨rfl, h1, h2⟩; have H1 := Lib.hid h1; have HB := Lib.hid (h2.below (((Below.refl _ w).alloc (Nat.le_refl _) _).drew) (Nat.le_refl _)); clear h1 h2)
  all_goals
    go_wp2_with (go_at_call 102; refine (wrU_any B b l (Lib.beBytes 8 v) ⟨w.heap.size, 0, none⟩ 8 8 w1 (H.out.old HB.out) (Lib.beBytes_length _ _) (by have := H.out.lt; show w.heap.size ≠ b; omega) H1.out HL.out).mono ?_; rintro e_ w2 ⟨rfl, h3, h4, h5⟩; have H2 := Lib.hid (And.intro h3 (Below.lower HB.out H.out.size h4)); clear h3 h4 h5)
    go_ret
    exact ⟨rfl, H2.out⟩
set_option maxHeartbeats 2000000 in
set_option maxRecDepth 100000 in
theorem encF32_any (B b v : Nat) (l : List UInt8) (w : World) (h : Bf B b l w) (hv : v < 4294967296) (hlim : l.length + 4 ≤ 140737488355328) :
    Calls Tryd.prog 77 #[.float .f32 v, bfI b] w fun e w' => e = .returned .nilIface ∧ Bf B b (l ++ Lib.beBytes 4 v) w' ∧ Below B w w' := by
  have H := Lib.hid h
  have HV := Lib.hid hv
  have HL := Lib.hid hlim
  clear h hv hlim
  have fb : ∀ W, (callFunc 56 #[.float .f32 v]).run Tryd.prog W = .ok (.value (.int .u32 v)) W := fun _ => by kernel_rfl
  go_enter Tryd.func77, Tryd.ntmps77
  go_wp2
  go_region_with (go_at_call 105; refine (put32_any w.heap.size v _ ?hd HV.out).mono ?_; (case hd => exact ⟨_, _, heap_alloc_new w _, rfl⟩); rintro e_ w1 ⟨rfl, h1, h2⟩; have H1 := Lib.hid h1; have HB := Lib.hid (h2.below (((Below.refl _ w).alloc (Nat.le_refl _) _).drew) (Nat.le_refl _)); clear h1 h2)
  all_goals
    go_wp2_with (go_at_call 102; refine (wrU_any B b l (Lib.beBytes 4 v) ⟨w.heap.size, 0, none⟩ 4 4 w1 (H.out.old HB.out) (Lib.beBytes_length _ _) (by have := H.out.lt; show w.heap.size ≠ b; omega) H1.out HL.out).mono ?_; rintro e_ w2 ⟨rfl, h3, h4, h5⟩; have H2 := Lib.hid (And.intro h3 (Below.lower HB.out H.out.size h4)); clear h3 h4 h5)
    go_ret
    exact ⟨rfl, H2.out⟩
theorem encI32_any (B b : Nat) (t : Int) (l : List UInt8) (w : World) (h : Bf B b l w) (hlim : l.length + 4 ≤ 140737488355328) :
    Calls Tryd.prog 74 #[.int .i32 t, bfI b] w fun e w' => e = .returned .nilIface ∧ Bf B b (l ++ Lib.beBytes 4 (t % 4294967296).toNat) w' ∧ Below B w w' := by
  have hC := encU32_any B b (t % 4294967296).toNat l w h (by omega) hlim
  have e : ((t % 4294967296).toNat : Int) = IntKind.u32.wrap t := by rw [IntKind.wrap_u32]; omega
  rw [e] at hC
  clear h hlim e
  go_enter Tryd.func74, Tryd.ntmps74
  go_wp2_with (go_at_call 80; refine hC.mono ?_; rintro e_ w2 ⟨rfl, h3⟩; have H2 := Lib.hid h3; clear h3)
  go_ret
  exact ⟨rfl, H2.out⟩
theorem millis_any (t : Int) (w : World) : Calls Tryd.prog 104 #[.int .i64 t] w fun e w' => e = .returned (.int .i64 t) ∧ w = w' := by
  go_enter Tryd.func104, Tryd.ntmps104
  go_wp2
  go_ret
  exact ⟨rfl, rfl⟩
theorem encTime_any (B b : Nat) (t : Int) (l : List UInt8) (w : World) (ht0 : -9223372036854775808 ≤ t) (ht1 : t ≤ 9223372036854775807) (h : Bf B b l w) (hlim : l.length + 8 ≤ 140737488355328) :
    Calls Tryd.prog 73 #[.int .i64 t, bfI b] w fun e w' => e = .returned .nilIface ∧ Bf B b (l ++ Lib.beBytes 8 (t + 9223372036854775808).toNat) w' ∧ Below B w w' := by
  have hC := encU64_any B b (t + 9223372036854775808).toNat l w h (by omega) hlim
  obtain ⟨y, hy⟩ : ∃ y, y = wrap64 (t + 9223372036854775808) := ⟨_, rfl⟩
  have e : ((t + 9223372036854775808).toNat : Int) = IntKind.u64.wrap y := by rw [hy, IntKind.wrap_u64]; unfold wrap64; omega
  rw [e] at hC
  have hy2 := hy.symm
  clear h hlim e ht0 ht1 hy
  go_enter Tryd.func73, Tryd.ntmps73
  go_wp2_with (first | (go_at_call 104; refine (millis_any _ _).mono ?_; rintro e_ w1 ⟨rfl, rfl⟩) | (go_at_call 81; refine hC.mono ?_; rintro e_ w2 ⟨rfl, h3⟩; have H2 := Lib.hid h3; clear h3))
  go_ret
  exact ⟨rfl, H2.out⟩
theorem errNew_any (s : ByteArray) (w : World) : Calls Tryd.prog 95 #[.string s] w fun e w' => e = .returned (.iface 182 (.pointer (some ⟨w.heap.size, 0, none⟩))) ∧ w' = w.alloc (.cells #[.string s] 184) := by
  go_enter Tryd.func95, Tryd.ntmps95
  go_wp2
  go_ret
  exact ⟨rfl, rfl⟩
set_option maxHeartbeats 2000000 in
/-- One byte. -/
theorem encBool_any (B b : Nat) (v : Bool) (l : List UInt8) (w : World) (h : Bf B b l w) (hlim : l.length + 1 ≤ 140737488355328) :
    Calls Tryd.prog 68 #[.bool v, bfI b] w fun e w' => e = .returned .nilIface ∧ Bf B b (l ++ [if v then 1 else 0]) w' ∧ Below B w w' := by
  have hb : Below w.heap.size w (w.alloc (.cells #[.int .u8 (if v then 1 else 0)] 5)) := (Below.refl _ w).alloc (Nat.le_refl _) _
  have hC := wrU_any B b l [if v then 1 else 0] ⟨w.heap.size, 0, none⟩ 1 1 (w.alloc (.cells #[.int .u8 (if v then 1 else 0)] 5)) (h.old hb) rfl (by have := h.lt; show w.heap.size ≠ b; omega)
    (At.mk fun j x hj => by
      rw [blk_cell (heap_alloc_new w _) j]
      cases j with
      | zero => simp at hj; subst hj; cases v <;> rfl
      | succ j => simp at hj) hlim
  have H := Lib.hid (And.intro hb h.size)
  clear hb h hlim
  cases v
  all_goals
    go_enter Tryd.func68, Tryd.ntmps68
    go_wp2_with (go_at_call 102; refine hC.mono ?_; rintro e_ w2 ⟨rfl, h3, h4, h5⟩; have H2 := Lib.hid (And.intro h3 (Below.lower H.out.1 H.out.2 h4)); clear h3 h4 h5)
    go_ret
    exact ⟨rfl, H2.out⟩
set_option maxHeartbeats 2000000 in
theorem encByte_any (B b : Nat) (v : UInt8) (l : List UInt8) (w : World) (h : Bf B b l w) (hlim : l.length + 1 ≤ 140737488355328) :
    Calls Tryd.prog 69 #[.int .u8 v.toNat, bfI b] w fun e w' => e = .returned .nilIface ∧ Bf B b (l ++ [v]) w' ∧ Below B w w' := by
  have hb : Below w.heap.size w (w.alloc (.cells #[.int .u8 v.toNat] 5)) := (Below.refl _ w).alloc (Nat.le_refl _) _
  have hC := wrU_any B b l [v] ⟨w.heap.size, 0, none⟩ 1 1 (w.alloc (.cells #[.int .u8 v.toNat] 5)) (h.old hb) rfl (by have := h.lt; show w.heap.size ≠ b; omega)
    (At.mk fun j x hj => by
      rw [blk_cell (heap_alloc_new w _) j]
      cases j with
      | zero => simp at hj; subst hj; rfl
      | succ j => simp at hj) hlim
  have H := Lib.hid (And.intro hb h.size)
  clear hb h hlim
  go_enter Tryd.func69, Tryd.ntmps69
  go_wp2_with (go_at_call 102; refine hC.mono ?_; rintro e_ w2 ⟨rfl, h3, h4, h5⟩; have H2 := Lib.hid (And.intro h3 (Below.lower H.out.1 H.out.2 h4)); clear h3 h4 h5)
  go_ret
  exact ⟨rfl, H2.out⟩
end Go.Proofs.YtgdbeiadlgkedaaDoor

/- Contracts: numbers by sevens of bits that are written. -/
namespace Go.Proofs.YtgdbeiadlgkedaaDoor
open Go.RowKit
set_option linter.unusedVariables false
set_option linter.unusedSimpArgs false

theorem info_u8 : (Tryd.prog.info? 5).map (fun i => (i.zero, i.size, i.bytes)) = some (some (.int .u8 0), 1, 1) := by kernel_rfl
set_option maxRecDepth 100000 in
theorem or128 (d : Nat) (h : d < 128) : d ||| 128 = d + 128 := by
  have : ∀ a : Fin 128, (a.val ||| 128) = a.val + 128 := by decide
  exact this ⟨d, h⟩
theorem and127 (u : Nat) : u &&& 127 = u % 128 := Nat.and_two_pow_sub_one_eq_mod u 7
theorem row_out {w w1 : World} {s : List UInt8} {d : Nat} {v' : Value} {l : List UInt8} (h : w1.ownsRow w.heap.size 5 1 v' (s.length + 1) (Lib.byteCells (s ++ [d.toUInt8]))) (hl : s ++ [d.toUInt8] = l) :
    ∃ g cap, v' = .slice (some ⟨g, 0, none⟩) l.length cap ∧ Hid (w.heap.size ≤ g ∧ At w1 ⟨g, 0, none⟩ l) := by
  subst hl
  rcases h.2 with ⟨_, hn⟩ | ⟨g, cap, cur, rfl, hg, _⟩
  · omega
  · refine ⟨g, cap, by rw [List.length_append]; rfl, Lib.hid ⟨hg, fun j x hj => ?_⟩⟩
    exact h.cells (g := g) rfl j _ (by rw [Lib.byteCells, List.getElem?_map, hj]; rfl)
set_option maxHeartbeats 4000000 in
set_option maxRecDepth 100000 in
/-- EncodeVarUint64 over whatever Write does. -/
theorem encVar_abs (b v : Nat) (w : World) (hv : v < 18446744073709551616) (Q : World → Prop)
    (hW : ∀ (a : Addr) (c : Nat) (w1 : World), Below w.heap.size w w1 → w.heap.size ≤ a.block → At w1 a (Lib.uvarint v) →
      Calls Tryd.prog 102 #[bfI b, .slice (some a) (Lib.uvarint v).length c] w1 fun e w' => e = .returned (.tuple #[.int .i64 ((Lib.uvarint v).length : Nat), .nilIface]) ∧ Q w') :
    Calls Tryd.prog 83 #[.int .u64 v, bfI b] w fun e w' => e = .returned .nilIface ∧ Q w' := by
  have hmk : ∀ w : World, (Instr.makeSlice 29 (.int .i64 0) (.int .i64 8)).run Tryd.prog w = .ok (.slice (some ⟨w.heap.size, 0, none⟩) 0 8) (w.alloc (.cells #[.int .u8 0, .int .u8 0, .int .u8 0, .int .u8 0, .int .u8 0, .int .u8 0, .int .u8 0, .int .u8 0] 5)) := fun _ => by kernel_rfl
  obtain ⟨i0, hi, hz0, hz1, hz2⟩ := info_parts info_u8
  have HW := Lib.hid hW
  have HV := Lib.hid hv
  have HL := Lib.hid (Lib.uvarint_length64 hv)
  have hown0 : (w.alloc (.cells #[.int .u8 0, .int .u8 0, .int .u8 0, .int .u8 0, .int .u8 0, .int .u8 0, .int .u8 0, .int .u8 0] 5)).ownsRow w.heap.size 5 1 (.slice (some ⟨w.heap.size, 0, none⟩) 0 8) ([] : List UInt8).length (Lib.byteCells []) := World.ownsRow_made w _ 8 (Nat.le_refl _) (by unfold maxLen; omega) rfl
  have HO := Lib.hid hown0
  clear hW hv hown0
  go_enter Tryd.func83, Tryd.ntmps83
  go_wp2
  go_loopg [0, 5] v (fun kq v0 v5 wr => ∃ (u : Nat) (s : List UInt8), kq = u ∧ v0 = .int .u64 u ∧ Hid (wr.ownsRow w.heap.size 5 1 v5 s.length (Lib.byteCells s)) ∧ Hid (s ++ Lib.uvarint u = Lib.uvarint v) ∧ Hid (Below w.heap.size w wr) ∧ Hid (u < 18446744073709551616))
  case atStart => exact ⟨v, [], rfl, rfl, HO, Lib.hid (by simp), Lib.hid ((Below.refl _ w).alloc (Nat.le_refl _) _), HV⟩
  case round =>
    clear HO
    obtain ⟨_, s, rfl, rfl, HO, HS, HB, HU⟩ := hrel
    obtain ⟨d, hd⟩ : ∃ d, Hid (gk % 128 = d) := ⟨_, Lib.hid rfl⟩
    obtain ⟨q, hq⟩ : ∃ q, Hid (gk / 128 = q) := ⟨_, Lib.hid rfl⟩
    have q1 : bits .and .u64 (gk : Int) 127 = (d : Int) := by
      have := bits_and_u64_nat gk 127 HU.out (by decide)
      rw [and127, hd.out] at this; exact this
    have q2 : (gk : Int) / 128 = (q : Int) := by have := hq.out; omega
    have HLS := Lib.hid (show s.length + (Lib.uvarint gk).length ≤ 10 by
      have h1 := congrArg List.length HS.out
      rw [List.length_append] at h1
      have := HL.out; omega)
    have hp := Lib.uvarint_pos gk
    by_cases h : gk < 128
    · have hz : q = 0 := by have := hq.out; omega
      subst hz
      have hdu : d = gk := by have := hd.out; omega
      have q3 : bits .or .u64 (d : Int) 0 = (d : Int) := by
        have := bits_or_u64_nat d 0 (by omega) (by decide)
        rw [Nat.or_zero] at this; exact this
      have q5 : (d : Int) % 256 = (d : Int) := by omega
      have HD := Lib.hid (show d < 256 by omega)
      have HS1 := Lib.hid (show s ++ [d.toUInt8] = Lib.uvarint v by rw [← HS.out, Lib.uvarint_small h, hdu])
      clear h hdu
      go_wp2_with (first
        | (at_builtin; go_loud (refine wpList_append_own _ rfl _ _ 29 rfl w.heap.size 5 i0 (.int .u8 0) 1 1 Tryd.underlying29 hi hz0 hz1 hz2 rfl (by decide) _ s.length (Lib.byteCells s) rfl (HO.out.alloc _) ⟨wr.heap.size, 0, none⟩ 1 1 [.int .u8 (d : Int)] rfl rfl ?c1 ?c2 ?c3 ?c4 ?c5 ?_; (case c1 => exact cell_one_new _ _ _); (case c2 => intro u hu; simp at hu; subst hu; rfl); (case c3 => have := HLS.out; unfold maxLen; omega); (case c4 => have := HLS.out; omega); (case c5 => have := HB.out.size; simp; omega); intro v' w1 hown' hgrow _; have HB1 := Lib.hid (Below.grown (HB.out.alloc HB.out.size _) hgrow (by have := HB.out.size; simp; omega) (fun k hk => (HO.out.lt k hk).1)); rw [← Lib.byteCells_snoc s HD.out] at hown'; have HO1 := Lib.hid hown'; clear hown' hgrow; obtain ⟨g, cap, rfl, hgg⟩ : ∃ g cap, v' = .slice (some ⟨g, 0, none⟩) (Lib.uvarint v).length cap ∧ Hid (w.heap.size ≤ g ∧ At w1 ⟨g, 0, none⟩ (Lib.uvarint v)) := row_out HO1.out HS1.out))
        | (go_at_call 102; refine (HW.out ⟨g, 0, none⟩ cap w1 HB1.out hgg.out.1 hgg.out.2).mono ?_; rintro e_ w2 ⟨rfl, hQ⟩; have HQ := Lib.hid hQ; clear hQ))
      go_ret
      exact ⟨rfl, HQ.out⟩
    · have hqp : ((q : Int) == 0) = false := beq_eq_false_iff_ne.mpr (by have := hq.out; omega)
      have hqp2 : ((q : Int) != 0) = true := by rw [bne, hqp]; rfl
      have hdl : d < 128 := by have := hd.out; omega
      obtain ⟨x, hx⟩ : ∃ x, Hid (d + 128 = x) := ⟨_, Lib.hid rfl⟩
      have q3 : bits .or .u64 (d : Int) 128 = (x : Int) := by
        have := bits_or_u64_nat d 128 (by omega) (by decide)
        rw [or128 d hdl, hx.out] at this; exact this
      have q5 : (x : Int) % 256 = (x : Int) := by have := hx.out; omega
      have HD := Lib.hid (show x < 256 by have := hx.out; omega)
      have HS1 := Lib.hid (show (s ++ [x.toUInt8]) ++ Lib.uvarint q = Lib.uvarint v by
        rw [← HS.out, Lib.uvarint_big (x := gk) (by omega), ← hq.out, ← hx.out, ← hd.out, List.append_assoc]; rfl)
      have HQ := Lib.hid (show q < gk ∧ q < 18446744073709551616 by have := hq.out; have := HU.out; omega)
      clear h hdl hqp
      go_wp2_with (at_builtin; go_loud (refine wpList_append_own _ rfl _ _ 29 rfl w.heap.size 5 i0 (.int .u8 0) 1 1 Tryd.underlying29 hi hz0 hz1 hz2 rfl (by decide) _ s.length (Lib.byteCells s) rfl (HO.out.alloc _) ⟨wr.heap.size, 0, none⟩ 1 1 [.int .u8 (x : Int)] rfl rfl ?c1 ?c2 ?c3 ?c4 ?c5 ?_; (case c1 => exact cell_one_new _ _ _); (case c2 => intro u hu; simp at hu; subst hu; rfl); (case c3 => have := HLS.out; unfold maxLen; omega); (case c4 => have := HLS.out; omega); (case c5 => have := HB.out.size; simp; omega); intro v' w1 hown' hgrow _; have HB1 := Lib.hid (Below.grown (HB.out.alloc HB.out.size _) hgrow (by have := HB.out.size; simp; omega) (fun k hk => (HO.out.lt k hk).1)); rw [← Lib.byteCells_snoc s HD.out] at hown'; have HO1 := Lib.hid hown'; clear hown' hgrow))
      go_roundg q
      case measure => exact HQ.out.1
      case rel => exact ⟨q, s ++ [x.toUInt8], rfl, rfl, Lib.hid (by rw [List.length_append]; exact HO1.out), HS1, HB1, Lib.hid HQ.out.2⟩
theorem encVar_any (B b v : Nat) (l : List UInt8) (w : World) (h : Bf B b l w) (hv : v < 18446744073709551616) (hlim : l.length + 10 ≤ 140737488355328) :
    Calls Tryd.prog 83 #[.int .u64 v, bfI b] w fun e w' => e = .returned .nilIface ∧ Bf B b (l ++ Lib.uvarint v) w' ∧ Below B w w' ∧ Lib.OthersKept 5 (some b) w w' :=
  encVar_abs b v w hv _ fun a c w1 hb ha hat => (wrU_any B b l (Lib.uvarint v) a (Lib.uvarint v).length c w1 (h.old hb) rfl (by have := h.lt; omega) hat (by have := Lib.uvarint_length64 hv; omega)).mono fun e w' ⟨a1, a2, a3, a4⟩ =>
    ⟨a1, a2, Below.lower hb h.size a3, fun k o hk hkb ho => a4 k o ((hb.block k (blk_lt hk)).trans hk) hkb ho⟩
/-- An int64 as a uint64. -/
def u64of (t : Int) : Nat := (t % 18446744073709551616).toNat
theorem u64of_lt (t : Int) : u64of t < 18446744073709551616 := by unfold u64of; omega
theorem u64of_nat (n : Nat) (h : n < 18446744073709551616) : u64of n = n := by unfold u64of; omega
theorem encVarI_abs (b : Nat) (t : Int) (w : World) (Q : World → Prop)
    (hW : Calls Tryd.prog 83 #[.int .u64 (u64of t), bfI b] w fun e w' => e = .returned .nilIface ∧ Q w') :
    Calls Tryd.prog 82 #[.int .i64 t, bfI b] w fun e w' => e = .returned .nilIface ∧ Q w' := by
  have e : (u64of t : Int) = t % 18446744073709551616 := by unfold u64of; omega
  rw [e] at hW
  have HW := Lib.hid hW
  clear e hW
  go_enter Tryd.func82, Tryd.ntmps82
  go_wp2_with (go_at_call 83; go_loud (refine HW.out.mono ?_; rintro e_ w2 ⟨rfl, hQ⟩; have HQ := Lib.hid hQ; clear hQ))
  go_ret
  exact ⟨rfl, HQ.out⟩
theorem encVarI_any (B b : Nat) (t : Int) (l : List UInt8) (w : World) (h : Bf B b l w) (hlim : l.length + 10 ≤ 140737488355328) :
    Calls Tryd.prog 82 #[.int .i64 t, bfI b] w fun e w' => e = .returned .nilIface ∧ Bf B b (l ++ Lib.uvarint (u64of t)) w' ∧ Below B w w' ∧ Lib.OthersKept 5 (some b) w w' :=
  encVarI_abs b t w _ (encVar_any B b (u64of t) l w h (u64of_lt t) hlim)
end Go.Proofs.YtgdbeiadlgkedaaDoor

/- Contracts: values of a size that are read. -/
namespace Go.Proofs.YtgdbeiadlgkedaaDoor
open Go.RowKit
set_option linter.unusedVariables false
set_option linter.unusedSimpArgs false

abbrev errV (p : Addr) : Value := .iface 182 (.pointer (some p))
theorem laidAt_get {cur : Array Value} {bs : List UInt8} {j : Nat} {x : UInt8} (h : bs[j]? = some x) : (laidAt cur 0 bs)[j]? = some (.int .u8 x.toNat) := by
  have hl := (List.getElem?_eq_some_iff.1 h).1
  simp only [laidAt, List.take_zero, List.nil_append, List.getElem?_toArray]
  rw [List.getElem?_append_left (by rw [cellsOf_len]; exact hl), cellsOf, List.getElem?_map, h]; rfl
/-- What a reader's call leaves behind where it falls. -/
def Fell (r g : Nat) (l : List UInt8) (w w' : World) (ev : Value) : Prop := w.grownBy w' (some r) ∧ Err ev w' ∧ ∃ i', Rd r g l i' w'
theorem Err.kept {v : Value} {w w' : World} (h : Err v w) (hk : ∀ k, k < w.heap.size → w'.heap[k]? = w.heap[k]?) : Err v w' := by
  obtain ⟨a, s, e1, e2, e3⟩ := h
  exact ⟨a, s, e1, (World.cell?_of_block (a := a) (hk _ (World.block_lt_of_cell? w a e2))).trans e2, e3⟩
theorem fix_ok (r g : Nat) (l : List UInt8) (i d n : Nat) (cur : Array Value) (T : TypeId) (w : World) (h : Rd r g l i w) (hn : 0 < n) (hi : i + n ≤ l.length) (hd : w.heap[d]? = some (.cells cur T (0, 0))) (hdr : d ≠ r) (hdg : d ≠ g) (hs : cur.size = n) :
    Calls Tryd.prog 94 #[rdI r, .slice (some ⟨d, 0, none⟩) n n] w fun e w' => e = .returned .nilIface ∧ Rd r g l (i + n) w' ∧ At w' ⟨d, 0, none⟩ ((l.drop i).take n) ∧ Two r d w w' :=
  (readNB_some r g l i d n n cur T w h (by omega) hd hdr hdg hi (by omega) hn (Nat.le_refl _)).mono fun e w' ⟨a1, a2, a3, a4⟩ => ⟨a1, a2, At.mk fun j x hj => (blk_cell a3 j).trans (laidAt_get hj), a4⟩
theorem fix_bad (B : Nat) (pe pl : Addr) (r g : Nat) (l : List UInt8) (i d n : Nat) (cur : Array Value) (T : TypeId) (w : World) (h : Rd r g l i w) (he : Env B pe pl w) (hBr : B ≤ r) (hBd : B ≤ d) (hn : 0 < n) (hn2 : n ≤ 4294967296) (hi : ¬ i + n ≤ l.length) (hd : w.heap[d]? = some (.cells cur T (0, 0))) (hdr : d ≠ r) (hdg : d ≠ g) (hs : cur.size = n) :
    Calls Tryd.prog 94 #[rdI r, .slice (some ⟨d, 0, none⟩) n n] w fun e w' => e = .returned (errV pe) ∧ Rd r g l l.length w' ∧ Two r d w w' := by
  have hle := h.le
  by_cases hi2 : i < l.length
  · exact readNB_few r g l i d n n cur T _ _ w h hi2 hd hdr hdg (by omega) (by omega) (Nat.le_refl _) he.eof (by have := he.b0; omega) (by have := he.b0; omega) hn2
  · obtain rfl : i = l.length := by omega
    exact (readNB_eof r g l d n n _ _ w h he.eof (Nat.le_refl _) hn).mono fun e w' ⟨a1, q, a2⟩ => ⟨a1, by rw [a2]; exact h.drewN q, by rw [a2]; exact (Two.refl r d w).drewN q⟩
theorem eight (l : List UInt8) (h : 8 ≤ l.length) : ∃ b0 b1 b2 b3 b4 b5 b6 b7, l.take 8 = [b0, b1, b2, b3, b4, b5, b6, b7] := by
  match l, h with
  | b0 :: b1 :: b2 :: b3 :: b4 :: b5 :: b6 :: b7 :: r, _ => exact ⟨b0, b1, b2, b3, b4, b5, b6, b7, rfl⟩
theorem four (l : List UInt8) (h : 4 ≤ l.length) : ∃ b0 b1 b2 b3, l.take 4 = [b0, b1, b2, b3] := by
  match l, h with
  | b0 :: b1 :: b2 :: b3 :: r, _ => exact ⟨b0, b1, b2, b3, rfl⟩
theorem At.get {w : World} {d : Nat} {l : List UInt8} (h : At w ⟨d, 0, none⟩ l) {j : Nat} {x : UInt8} (hj : l[j]? = some x) : w.cell? ⟨d, 0 + j, none⟩ = some (.int .u8 x.toNat) := by
  have := h j x hj
  rwa [Lib.addr_add] at this
theorem get64_any (d : Nat) (l : List UInt8) (w : World) (hl : 8 ≤ l.length) (h : At w ⟨d, 0, none⟩ (l.take 8)) :
    Calls Tryd.prog 96 #[.agg #[], .slice (some ⟨d, 0, none⟩) 8 8] w fun e w' => e = .returned (.int .u64 (Lib.beNat (l.take 8) : Nat)) ∧ Below w.heap.size w w' := by
  obtain ⟨b0, b1, b2, b3, b4, b5, b6, b7, e⟩ := eight l hl
  rw [e] at h ⊢
  exact Tryd.binary_BE_Uint64 d 0 8 8 b0 b1 b2 b3 b4 b5 b6 b7 w (by decide) (h.get (j := 0) rfl) (h.get (j := 1) rfl) (h.get (j := 2) rfl) (h.get (j := 3) rfl) (h.get (j := 4) rfl) (h.get (j := 5) rfl) (h.get (j := 6) rfl) (h.get (j := 7) rfl)
theorem get32_any (d : Nat) (l : List UInt8) (w : World) (hl : 4 ≤ l.length) (h : At w ⟨d, 0, none⟩ (l.take 4)) :
    Calls Tryd.prog 97 #[.agg #[], .slice (some ⟨d, 0, none⟩) 4 4] w fun e w' => e = .returned (.int .u32 (Lib.beNat (l.take 4) : Nat)) ∧ Below w.heap.size w w' := by
  obtain ⟨b0, b1, b2, b3, e⟩ := four l hl
  rw [e] at h ⊢
  exact Tryd.binary_BE_Uint32 d 0 4 4 b0 b1 b2 b3 w (by decide) (h.get (j := 0) rfl) (h.get (j := 1) rfl) (h.get (j := 2) rfl) (h.get (j := 3) rfl)
theorem grown_below_trans {r : Nat} {a b c : World} (h : a.grownBy b (some r)) (k : Below b.heap.size b c) : a.grownBy c (some r) := Lib.grownBy_below h k
theorem Rd.ge {r g : Nat} {l : List UInt8} {i : Nat} {w : World} (h : Rd r g l i w) (o : Obj) : w.heap.size ≠ r ∧ w.heap.size ≠ g := ⟨by have := h.lt; omega, by have := h.ltg; omega⟩
set_option maxHeartbeats 2000000 in
set_option maxRecDepth 100000 in
theorem decU64_ok (r g : Nat) (l : List UInt8) (i : Nat) (w : World) (h : Rd r g l i w) (hi : i + 8 ≤ l.length) :
    Calls Tryd.prog 59 #[rdI r] w fun e w' => e = .returned (.tuple #[.int .u64 (Lib.beNat ((l.drop i).take 8) : Nat), .nilIface]) ∧ w.grownBy w' (some r) ∧ Rd r g l (i + 8) w' := by
  have hne := h.ge (.cells #[] 0)
  have hC := fix_ok r g l i w.heap.size 8 _ _ _ (h.alloc (.cells #[.int .u8 0, .int .u8 0, .int .u8 0, .int .u8 0, .int .u8 0, .int .u8 0, .int .u8 0, .int .u8 0] 164)) (by decide) hi (heap_alloc_new w _) hne.1 hne.2 rfl
  have HC := Lib.hid hC
  have HI := Lib.hid (show 8 ≤ (l.drop i).length by rw [List.length_drop]; omega)
  clear hC h hne hi
  go_enter Tryd.func59, Tryd.ntmps59
  go_wp2_with (go_at_call 94; go_loud (refine HC.out.mono ?_; rintro e_ w1 ⟨rfl, h1, h2, h3⟩; have H1 := Lib.hid h1; have H2 := Lib.hid h2; have HG := Lib.hid (Two.grown (grown_alloc (grown_refl (r := r) w) _) h3 (Nat.le_refl _)); clear h1 h2 h3))
  go_region_with (go_at_call 96; refine (get64_any w.heap.size (l.drop i) _ HI.out ?ha).mono ?_; (case ha => exact H2.out); rintro e_ w2 ⟨rfl, hb⟩; have HB := Lib.hid hb; clear hb)
  all_goals
    go_wp2
    go_ret2
    exact ⟨rfl, Lib.grownBy_below (grown_drewN HG.out 1) HB.out, (H1.out.drewN 1).below HB.out⟩
set_option maxHeartbeats 2000000 in
set_option maxRecDepth 100000 in
theorem decU64_bad (B : Nat) (pe pl : Addr) (r g : Nat) (l : List UInt8) (i : Nat) (w : World) (h : Rd r g l i w) (he : Env B pe pl w) (hBr : B ≤ r) (hi : ¬ i + 8 ≤ l.length) :
    Calls Tryd.prog 59 #[rdI r] w fun e w' => ∃ ev, e = .returned (.tuple #[.int .u64 0, ev]) ∧ Fell r g l w w' ev := by
  have hne := h.ge (.cells #[] 0)
  have hrw := h.lt
  have hC := fix_bad B pe pl r g l i w.heap.size 8 _ _ _ (h.alloc (.cells #[.int .u8 0, .int .u8 0, .int .u8 0, .int .u8 0, .int .u8 0, .int .u8 0, .int .u8 0, .int .u8 0] 164)) (he.below ((Below.refl B w).alloc (by omega) _)) hBr (by omega) (by decide) (by decide) hi (heap_alloc_new w _) hne.1 hne.2 rfl
  have HC := Lib.hid hC
  have HE := Lib.hid he
  have HR := Lib.hid (And.intro hBr hrw)
  clear hC h hne hi he hBr hrw
  go_enter Tryd.func59, Tryd.ntmps59
  go_wp2_with (go_at_call 94; go_loud (refine HC.out.mono ?_; rintro e_ w1 ⟨rfl, h1, h3⟩; have H1 := Lib.hid h1; have HG := Lib.hid (Two.grown (grown_alloc (grown_refl (r := r) w) _) h3 (Nat.le_refl _)); clear h1 h3))
  go_ret2
  exact ⟨errV pe, rfl, HG.out, (HE.out.below (grown_below HG.out (by have := HR.out; omega) HR.out.1)).errE, _, H1.out⟩
set_option maxHeartbeats 2000000 in
set_option maxRecDepth 100000 in
theorem decU32_ok (r g : Nat) (l : List UInt8) (i : Nat) (w : World) (h : Rd r g l i w) (hi : i + 4 ≤ l.length) :
    Calls Tryd.prog 58 #[rdI r] w fun e w' => e = .returned (.tuple #[.int .u32 (Lib.beNat ((l.drop i).take 4) : Nat), .nilIface]) ∧ w.grownBy w' (some r) ∧ Rd r g l (i + 4) w' := by
  have hne := h.ge (.cells #[] 0)
  have hC := fix_ok r g l i w.heap.size 4 _ _ _ (h.alloc (.cells #[.int .u8 0, .int .u8 0, .int .u8 0, .int .u8 0] 168)) (by decide) hi (heap_alloc_new w _) hne.1 hne.2 rfl
  have HC := Lib.hid hC
  have HI := Lib.hid (show 4 ≤ (l.drop i).length by rw [List.length_drop]; omega)
  clear hC h hne hi
  go_enter Tryd.func58, Tryd.ntmps58
  go_wp2_with (go_at_call 94; go_loud (refine HC.out.mono ?_; rintro e_ w1 ⟨rfl, h1, h2, h3⟩; have H1 := Lib.hid h1; have H2 := Lib.hid h2; have HG := Lib.hid (Two.grown (grown_alloc (grown_refl (r := r) w) _) h3 (Nat.le_refl _)); clear h1 h2 h3))
  go_region_with (go_at_call 97; refine (get32_any w.heap.size (l.drop i) _ HI.out ?ha).mono ?_; (case ha => exact H2.out); rintro e_ w2 ⟨rfl, hb⟩; have HB := Lib.hid hb; clear hb)
  all_goals
    go_wp2
    go_ret2
    exact ⟨rfl, Lib.grownBy_below (grown_drewN HG.out 1) HB.out, (H1.out.drewN 1).below HB.out⟩
set_option maxHeartbeats 2000000 in
set_option maxRecDepth 100000 in
theorem decU32_bad (B : Nat) (pe pl : Addr) (r g : Nat) (l : List UInt8) (i : Nat) (w : World) (h : Rd r g l i w) (he : Env B pe pl w) (hBr : B ≤ r) (hi : ¬ i + 4 ≤ l.length) :
    Calls Tryd.prog 58 #[rdI r] w fun e w' => ∃ ev, e = .returned (.tuple #[.int .u32 0, ev]) ∧ Fell r g l w w' ev := by
  have hne := h.ge (.cells #[] 0)
  have hrw := h.lt
  have hC := fix_bad B pe pl r g l i w.heap.size 4 _ _ _ (h.alloc (.cells #[.int .u8 0, .int .u8 0, .int .u8 0, .int .u8 0] 168)) (he.below ((Below.refl B w).alloc (by omega) _)) hBr (by omega) (by decide) (by decide) hi (heap_alloc_new w _) hne.1 hne.2 rfl
  have HC := Lib.hid hC
  have HE := Lib.hid he
  have HR := Lib.hid (And.intro hBr hrw)
  clear hC h hne hi he hBr hrw
  go_enter Tryd.func58, Tryd.ntmps58
  go_wp2_with (go_at_call 94; go_loud (refine HC.out.mono ?_; rintro e_ w1 ⟨rfl, h1, h3⟩; have H1 := Lib.hid h1; have HG := Lib.hid (Two.grown (grown_alloc (grown_refl (r := r) w) _) h3 (Nat.le_refl _)); clear h1 h3))
  go_ret2
  exact ⟨errV pe, rfl, HG.out, (HE.out.below (grown_below HG.out (by have := HR.out; omega) HR.out.1)).errE, _, H1.out⟩
set_option maxHeartbeats 2000000 in
set_option maxRecDepth 100000 in
theorem decF64_ok (r g : Nat) (l : List UInt8) (i : Nat) (w : World) (h : Rd r g l i w) (hi : i + 8 ≤ l.length) :
    Calls Tryd.prog 49 #[rdI r] w fun e w' => e = .returned (.tuple #[.float .f64 (Lib.beNat ((l.drop i).take 8)), .nilIface]) ∧ w.grownBy w' (some r) ∧ Rd r g l (i + 8) w' := by
  have hne := h.ge (.cells #[] 0)
  have hC := fix_ok r g l i w.heap.size 8 _ _ _ (h.alloc (.cells #[.int .u8 0, .int .u8 0, .int .u8 0, .int .u8 0, .int .u8 0, .int .u8 0, .int .u8 0, .int .u8 0] 164)) (by decide) hi (heap_alloc_new w _) hne.1 hne.2 rfl
  have HC := Lib.hid hC
  have HI := Lib.hid (show 8 ≤ (l.drop i).length by rw [List.length_drop]; omega)
  have fb : ∀ W, (callFunc 72 #[.int .u64 (Lib.beNat ((l.drop i).take 8) : Nat)]).run Tryd.prog W = .ok (.value (.float .f64 (Lib.beNat ((l.drop i).take 8)))) W := fun _ => by kernel_rfl
  clear hC h hne hi
  go_enter Tryd.func49, Tryd.ntmps49
  go_wp2_with (go_at_call 94; go_loud (refine HC.out.mono ?_; rintro e_ w1 ⟨rfl, h1, h2, h3⟩; have H1 := Lib.hid h1; have H2 := Lib.hid h2; have HG := Lib.hid (Two.grown (grown_alloc (grown_refl (r := r) w) _) h3 (Nat.le_refl _)); clear h1 h2 h3))
  go_region_with (go_at_call 96; refine (get64_any w.heap.size (l.drop i) _ HI.out ?ha).mono ?_; (case ha => exact H2.out); rintro e_ w2 ⟨rfl, hb⟩; have HB := Lib.hid hb; clear hb)
  all_goals
    go_wp2
    go_ret2
    exact ⟨rfl, Lib.grownBy_below (grown_drewN HG.out 1) HB.out, (H1.out.drewN 1).below HB.out⟩
set_option maxHeartbeats 2000000 in
set_option maxRecDepth 100000 in
theorem decF64_bad (B : Nat) (pe pl : Addr) (r g : Nat) (l : List UInt8) (i : Nat) (w : World) (h : Rd r g l i w) (he : Env B pe pl w) (hBr : B ≤ r) (hi : ¬ i + 8 ≤ l.length) :
    Calls Tryd.prog 49 #[rdI r] w fun e w' => ∃ ev, e = .returned (.tuple #[.float .f64 0, ev]) ∧ Fell r g l w w' ev := by
  have hne := h.ge (.cells #[] 0)
  have hrw := h.lt
  have hC := fix_bad B pe pl r g l i w.heap.size 8 _ _ _ (h.alloc (.cells #[.int .u8 0, .int .u8 0, .int .u8 0, .int .u8 0, .int .u8 0, .int .u8 0, .int .u8 0, .int .u8 0] 164)) (he.below ((Below.refl B w).alloc (by omega) _)) hBr (by omega) (by decide) (by decide) hi (heap_alloc_new w _) hne.1 hne.2 rfl
  have HC := Lib.hid hC
  have HE := Lib.hid he
  have HR := Lib.hid (And.intro hBr hrw)
  clear hC h hne hi he hBr hrw
  go_enter Tryd.func49, Tryd.ntmps49
  go_wp2_with (go_at_call 94; go_loud (refine HC.out.mono ?_; rintro e_ w1 ⟨rfl, h1, h3⟩; have H1 := Lib.hid h1; have HG := Lib.hid (Two.grown (grown_alloc (grown_refl (r := r) w) _) h3 (Nat.le_refl _)); clear h1 h3))
  go_ret2
  exact ⟨errV pe, rfl, HG.out, (HE.out.below (grown_below HG.out (by have := HR.out; omega) HR.out.1)).errE, _, H1.out⟩
set_option maxHeartbeats 2000000 in
set_option maxRecDepth 100000 in
theorem decF32_ok (r g : Nat) (l : List UInt8) (i : Nat) (w : World) (h : Rd r g l i w) (hi : i + 4 ≤ l.length) :
    Calls Tryd.prog 55 #[rdI r] w fun e w' => e = .returned (.tuple #[.float .f32 (Lib.beNat ((l.drop i).take 4)), .nilIface]) ∧ w.grownBy w' (some r) ∧ Rd r g l (i + 4) w' := by
  have hne := h.ge (.cells #[] 0)
  have hC := fix_ok r g l i w.heap.size 4 _ _ _ (h.alloc (.cells #[.int .u8 0, .int .u8 0, .int .u8 0, .int .u8 0] 168)) (by decide) hi (heap_alloc_new w _) hne.1 hne.2 rfl
  have HC := Lib.hid hC
  have HI := Lib.hid (show 4 ≤ (l.drop i).length by rw [List.length_drop]; omega)
  have fb : ∀ W, (callFunc 78 #[.int .u32 (Lib.beNat ((l.drop i).take 4) : Nat)]).run Tryd.prog W = .ok (.value (.float .f32 (Lib.beNat ((l.drop i).take 4)))) W := fun _ => by kernel_rfl
  clear hC h hne hi
  go_enter Tryd.func55, Tryd.ntmps55
  go_wp2_with (go_at_call 94; go_loud (refine HC.out.mono ?_; rintro e_ w1 ⟨rfl, h1, h2, h3⟩; have H1 := Lib.hid h1; have H2 := Lib.hid h2; have HG := Lib.hid (Two.grown (grown_alloc (grown_refl (r := r) w) _) h3 (Nat.le_refl _)); clear h1 h2 h3))
  go_region_with (go_at_call 97; refine (get32_any w.heap.size (l.drop i) _ HI.out ?ha).mono ?_; (case ha => exact H2.out); rintro e_ w2 ⟨rfl, hb⟩; have HB := Lib.hid hb; clear hb)
  all_goals
    go_wp2
    go_ret2
    exact ⟨rfl, Lib.grownBy_below (grown_drewN HG.out 1) HB.out, (H1.out.drewN 1).below HB.out⟩
set_option maxHeartbeats 2000000 in
set_option maxRecDepth 100000 in
theorem decF32_bad (B : Nat) (pe pl : Addr) (r g : Nat) (l : List UInt8) (i : Nat) (w : World) (h : Rd r g l i w) (he : Env B pe pl w) (hBr : B ≤ r) (hi : ¬ i + 4 ≤ l.length) :
    Calls Tryd.prog 55 #[rdI r] w fun e w' => ∃ ev, e = .returned (.tuple #[.float .f32 0, ev]) ∧ Fell r g l w w' ev := by
  have hne := h.ge (.cells #[] 0)
  have hrw := h.lt
  have hC := fix_bad B pe pl r g l i w.heap.size 4 _ _ _ (h.alloc (.cells #[.int .u8 0, .int .u8 0, .int .u8 0, .int .u8 0] 168)) (he.below ((Below.refl B w).alloc (by omega) _)) hBr (by omega) (by decide) (by decide) hi (heap_alloc_new w _) hne.1 hne.2 rfl
  have HC := Lib.hid hC
  have HE := Lib.hid he
  have HR := Lib.hid (And.intro hBr hrw)
  clear hC h hne hi he hBr hrw
  go_enter Tryd.func55, Tryd.ntmps55
  go_wp2_with (go_at_call 94; go_loud (refine HC.out.mono ?_; rintro e_ w1 ⟨rfl, h1, h3⟩; have H1 := Lib.hid h1; have HG := Lib.hid (Two.grown (grown_alloc (grown_refl (r := r) w) _) h3 (Nat.le_refl _)); clear h1 h3))
  go_ret2
  exact ⟨errV pe, rfl, HG.out, (HE.out.below (grown_below HG.out (by have := HR.out; omega) HR.out.1)).errE, _, H1.out⟩
theorem decI32_ok (r g : Nat) (l : List UInt8) (i : Nat) (w : World) (h : Rd r g l i w) (hi : i + 4 ≤ l.length) :
    Calls Tryd.prog 52 #[rdI r] w fun e w' => e = .returned (.tuple #[.int .i32 (wrap32 (Lib.beNat ((l.drop i).take 4) : Nat)), .nilIface]) ∧ w.grownBy w' (some r) ∧ Rd r g l (i + 4) w' := by
  have HC := Lib.hid (decU32_ok r g l i w h hi)
  clear h hi
  go_enter Tryd.func52, Tryd.ntmps52
  go_wp2_with (go_at_call 58; go_loud (refine HC.out.mono ?_; rintro e_ w1 ⟨rfl, h1⟩; have H1 := Lib.hid h1; clear h1))
  go_ret2
  exact ⟨rfl, H1.out⟩
theorem decI32_bad (B : Nat) (pe pl : Addr) (r g : Nat) (l : List UInt8) (i : Nat) (w : World) (h : Rd r g l i w) (he : Env B pe pl w) (hBr : B ≤ r) (hi : ¬ i + 4 ≤ l.length) :
    Calls Tryd.prog 52 #[rdI r] w fun e w' => ∃ ev, e = .returned (.tuple #[.int .i32 0, ev]) ∧ Fell r g l w w' ev := by
  have HC := Lib.hid (decU32_bad B pe pl r g l i w h he hBr hi)
  clear h hi he hBr
  go_enter Tryd.func52, Tryd.ntmps52
  go_wp2_with (go_at_call 58; go_loud (refine HC.out.mono ?_; rintro e_ w1 ⟨ev, rfl, h1⟩; obtain ⟨a, s, rfl, h2⟩ : ∃ a s, ev = errV a ∧ Hid (w1.cell? a = some (.string s) ∧ s.data.toList ≠ []) := (by obtain ⟨a, s, e1, e2, e3⟩ := h1.2.1; exact ⟨a, s, e1, Lib.hid ⟨e2, e3⟩⟩); have H1 := Lib.hid h1; clear h1))
  go_ret2
  exact ⟨errV a, rfl, H1.out⟩
theorem decTime_ok (r g : Nat) (l : List UInt8) (i : Nat) (w : World) (h : Rd r g l i w) (hi : i + 8 ≤ l.length) :
    Calls Tryd.prog 51 #[rdI r] w fun e w' => e = .returned (.tuple #[.int .i64 (wrap64 (wrap64 (Lib.beNat ((l.drop i).take 8) : Nat) + -9223372036854775808)), .nilIface]) ∧ w.grownBy w' (some r) ∧ Rd r g l (i + 8) w' := by
  have HC := Lib.hid (decU64_ok r g l i w h hi)
  clear h hi
  go_enter Tryd.func51, Tryd.ntmps51
  go_wp2_with (go_at_call 59; go_loud (refine HC.out.mono ?_; rintro e_ w1 ⟨rfl, h1⟩; have H1 := Lib.hid h1; clear h1))
  go_ret2
  exact ⟨rfl, H1.out⟩
theorem decTime_bad (B : Nat) (pe pl : Addr) (r g : Nat) (l : List UInt8) (i : Nat) (w : World) (h : Rd r g l i w) (he : Env B pe pl w) (hBr : B ≤ r) (hi : ¬ i + 8 ≤ l.length) :
    Calls Tryd.prog 51 #[rdI r] w fun e w' => ∃ ev, e = .returned (.tuple #[.int .i64 0, ev]) ∧ Fell r g l w w' ev := by
  have HC := Lib.hid (decU64_bad B pe pl r g l i w h he hBr hi)
  clear h hi he hBr
  go_enter Tryd.func51, Tryd.ntmps51
  go_wp2_with (go_at_call 59; go_loud (refine HC.out.mono ?_; rintro e_ w1 ⟨ev, rfl, h1⟩; obtain ⟨a, s, rfl, h2⟩ : ∃ a s, ev = errV a ∧ Hid (w1.cell? a = some (.string s) ∧ s.data.toList ≠ []) := (by obtain ⟨a, s, e1, e2, e3⟩ := h1.2.1; exact ⟨a, s, e1, Lib.hid ⟨e2, e3⟩⟩); have H1 := Lib.hid h1; clear h1))
  go_ret2
  exact ⟨errV a, rfl, H1.out⟩
/-- DecodeVarInt. -/
theorem decVarI_ok (B : Nat) (pe pl : Addr) (r g : Nat) (l : List UInt8) (i v k : Nat) (w : World) (h : Rd r g l i w) (he : Env B pe pl w) (hBr : B ≤ r) (hR : vrd 0 0 (l.drop i) = some (v, k)) :
    Calls Tryd.prog 60 #[rdI r] w fun e w' => e = .returned (.tuple #[.int .i64 (wrap64 (v : Nat)), .nilIface]) ∧ w.grownBy w' (some r) ∧ Rd r g l (i + k) w' := by
  have HC := Lib.hid (decVar_any B pe pl r g l i w h he hBr _ hR)
  clear h hR he hBr
  go_enter Tryd.func60, Tryd.ntmps60
  go_wp2_with (go_at_call 61; go_loud (refine HC.out.mono ?_; rintro e_ w1 ⟨hg, ⟨v', k', hvk, rfl, h1⟩ | ⟨hn, _⟩⟩; rotate_left; exact absurd hn (by simp); obtain ⟨rfl, rfl⟩ : v = v' ∧ k = k' := (by simpa using hvk); have H1 := Lib.hid (And.intro hg h1); clear h1 hg hvk))
  go_ret2
  exact ⟨rfl, H1.out⟩
theorem decVarI_bad (B : Nat) (pe pl : Addr) (r g : Nat) (l : List UInt8) (i : Nat) (w : World) (h : Rd r g l i w) (he : Env B pe pl w) (hBr : B ≤ r) (hR : vrd 0 0 (l.drop i) = none) :
    Calls Tryd.prog 60 #[rdI r] w fun e w' => ∃ ev, e = .returned (.tuple #[.int .i64 0, ev]) ∧ Fell r g l w w' ev := by
  have HC := Lib.hid (decVar_any B pe pl r g l i w h he hBr _ hR)
  clear h hR he hBr
  go_enter Tryd.func60, Tryd.ntmps60
  go_wp2_with (go_at_call 61; go_loud (refine HC.out.mono ?_; rintro e_ w1 ⟨hg, ⟨v', k', hvk, rfl, h1⟩ | ⟨_, ev, i', rfl, h1, h2⟩⟩; exact absurd hvk (by simp); obtain ⟨a, s, rfl, h3⟩ : ∃ a s, ev = errV a ∧ Hid (w1.cell? a = some (.string s) ∧ s.data.toList ≠ []) := (by obtain ⟨a, s, e1, e2, e3⟩ := h1; exact ⟨a, s, e1, Lib.hid ⟨e2, e3⟩⟩); have H1 := Lib.hid (And.intro hg (And.intro h1 h2)); clear h1 h2 hg))
  go_ret2
  exact ⟨errV a, rfl, H1.out.1, H1.out.2.1, i', H1.out.2.2⟩
end Go.Proofs.YtgdbeiadlgkedaaDoor
