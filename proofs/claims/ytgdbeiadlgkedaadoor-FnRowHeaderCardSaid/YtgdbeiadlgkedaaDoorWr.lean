/- Contracts: what is written into a bytes.Buffer of the call's own. -/
import Derived.Test.YtgdbeiadlgkedaaDoorSh
import Derived.Test.YtgdbeiadlgkedaaDoorRd
import Derived.Test.YtgdbeiadlgkedaaDoorPl
import Derived.Lib.BufferOld
import Derived.Lib.BufferKept
import Derived.Lib.BufferWrite
import Derived.Lib.VarintMem
import Derived.Laws.AppendOwn
namespace Go.Proofs.YtgdbeiadlgkedaaDoor
open Go.RowKit
set_option linter.unusedVariables false
set_option linter.unusedSimpArgs false

/-- A buffer of the call's own, in block b, that holds the bytes l. -/
abbrev Bf (B b : Nat) (l : List UInt8) (w : World) : Prop := Lib.IsBuffer 129 5 B b (Lib.byteCells l) w
abbrev bfI (b : Nat) : Value := .iface 131 (.pointer (some ⟨b, 0, none⟩))
theorem Bf.size {B b : Nat} {l : List UInt8} {w : World} (h : Bf B b l w) : B ≤ w.heap.size := Nat.le_trans h.1 (Nat.le_of_lt h.lt)
/-- The cells at a are the bytes l. -/
def At (w : World) (a : Addr) (l : List UInt8) : Prop := ∀ j x, l[j]? = some x → w.cell? (a.add j) = some (.int .u8 x.toNat)
theorem At.cells {w : World} {a : Addr} {l : List UInt8} (h : At w a l) : ∀ j v, (Lib.byteCells l)[j]? = some v → w.cell? (a.add j) = some v := by
  intro j v hj
  obtain ⟨x, hx, rfl⟩ := cellsOf_get (l := l) hj
  exact h j x hx
theorem At.kept {w w' : World} {a : Addr} {l : List UInt8} (h : At w a l) (hk : w'.heap[a.block]? = w.heap[a.block]?) : At w' a l := by
  intro j x hj
  have e : (a.add j).block = a.block := by unfold Addr.add; split <;> rfl
  exact (World.cell?_of_block (a := a.add j) (by rw [e]; exact hk)).trans (h j x hj)
theorem At.mk {w : World} {b : Nat} {l : List UInt8} (h : ∀ j x, l[j]? = some x → w.cell? ⟨b, j, none⟩ = some (.int .u8 x.toNat)) : At w ⟨b, 0, none⟩ l := by
  intro j x hj
  rw [Lib.addr_add, Nat.zero_add]
  exact h j x hj
theorem write_any (B b : Nat) (l l2 : List UInt8) (a : Addr) (n c : Nat) (w : World) (h : Bf B b l w) (hn : l2.length = n) (hab : a.block ≠ b) (hsrc : At w a l2) (hlim : l.length + n ≤ 140737488355328) :
    Calls Tryd.prog 132 #[.pointer (some ⟨b, 0, none⟩), .slice (some a) n c] w fun e w' => e = .returned (.tuple #[.int .i64 n, .nilIface]) ∧ Bf B b (l ++ l2) w' ∧ Below B w w' ∧ Lib.OthersKept 5 (some b) w w' :=
  (Tryd.Buffer_Write_any B b (Lib.byteCells l) (Lib.byteCells l2) a n c w h h.size (Lib.byteCells_one _) (by rw [Lib.byteCells_length]; exact hn) hab hsrc.cells (Lib.byteCells_one _) (by rw [Lib.byteCells_length]; exact hlim)).mono fun e w' ⟨a1, a2, a3, a4⟩ => ⟨a1, by rw [← Lib.byteCells_append] at a2; exact a2, a3, a4⟩
theorem wrU_any (B b : Nat) (l l2 : List UInt8) (a : Addr) (n c : Nat) (w : World) (h : Bf B b l w) (hn : l2.length = n) (hab : a.block ≠ b) (hsrc : At w a l2) (hlim : l.length + n ≤ 140737488355328) :
    Calls Tryd.prog 102 #[bfI b, .slice (some a) n c] w fun e w' => e = .returned (.tuple #[.int .i64 n, .nilIface]) ∧ Bf B b (l ++ l2) w' ∧ Below B w w' ∧ Lib.OthersKept 5 (some b) w w' := by
  have hC := write_any B b l l2 a n c w h hn hab hsrc hlim
  clear h hsrc hn hab hlim
  go_enter Tryd.func102, Tryd.ntmps102
  go_wp2_with (go_at_call 132; refine hC.mono ?_; rintro e_ w1 ⟨rfl, h1⟩; have H1 := Lib.hid h1; clear h1)
  go_ret2
  exact ⟨rfl, H1.out⟩
theorem byteArr (d : Nat) (cur : Array Value) (T : TypeId) (w : World) (hd : w.heap[d]? = some (.cells cur T (0, 0))) (vs : List UInt8) (hs : vs.length ≤ cur.size) :
    At (w.setCells d 0 (Lib.byteCells vs)) ⟨d, 0, none⟩ vs ∧ Two d d w (w.setCells d 0 (Lib.byteCells vs)) := by
  refine ⟨At.mk fun j x hj => ?_, ?_⟩
  · have hlt : j < vs.length := (List.getElem?_eq_some_iff.1 hj).1
    have := World.cell?_setCells_in d (Lib.byteCells vs) 0 w (fun i hi => by
      rw [Lib.byteCells_length] at hi
      rw [Nat.zero_add, blk_cell hd i]
      simp; omega) j (by rw [Lib.byteCells_length]; exact hlt)
    rw [Nat.zero_add] at this
    rw [this]
    have e := (List.getElem?_eq_some_iff.1 hj).2
    simp [Lib.byteCells, e]
  · have : ∀ (vs : List Value) (o : Nat) (w' : World), Two d d w w' → Two d d w (w'.setCells d o vs) := by
      intro vs
      induction vs with
      | nil => intro o w' h; exact h
      | cons v r ih => intro o w' h; exact ih (o + 1) _ (h.set _ _ (.inl rfl))
    exact this _ _ _ (Two.refl d d w)
theorem Two.alloc {r d : Nat} {w w' : World} (h : Two r d w w') (o : Obj) : Two r d w (w'.alloc o) :=
  ⟨h.os, h.tape, h.output, Nat.le_trans h.size (by simp), fun k hk a b => (Below.heap_alloc w' o k (Nat.lt_of_lt_of_le hk h.size)).trans (h.block k hk a b)⟩
/-- Block d is an array of n cells. -/
def Arr (w : World) (d n : Nat) : Prop := ∃ cur T, w.heap[d]? = some (.cells cur T (0, 0)) ∧ cur.size = n
theorem Arr.new (w : World) (cur : Array Value) (T : TypeId) : Arr (w.alloc (.cells cur T)) w.heap.size cur.size := ⟨cur, T, heap_alloc_new w _, rfl⟩
/-- PutUint64 into an array of eight bytes. -/
theorem put64_any (d v : Nat) (w : World) (ha : Arr w d 8) (hv : v < 18446744073709551616) :
    Calls Tryd.prog 103 #[.agg #[], .slice (some ⟨d, 0, none⟩) 8 8, .int .u64 v] w fun e w' => e = .returned (.tuple #[]) ∧ At w' ⟨d, 0, none⟩ (Lib.beBytes 8 v) ∧ Two d d w w' := by
  obtain ⟨cur, T, hd, hs⟩ := ha
  have cs : ∀ i, i < 8 → ∃ x, w.cell? ⟨d, i, none⟩ = some x := fun i hi => ⟨cur[i], by rw [blk_cell hd i]; simp [hs, hi]⟩
  have fs : ∀ i, w.frozen? ⟨d, i, none⟩ = false := fun i => blk_frozen hd i
  obtain ⟨x0, c0⟩ := cs 0 (by decide)
  obtain ⟨x1, c1⟩ := cs 1 (by decide)
  obtain ⟨x2, c2⟩ := cs 2 (by decide)
  obtain ⟨x3, c3⟩ := cs 3 (by decide)
  obtain ⟨x4, c4⟩ := cs 4 (by decide)
  obtain ⟨x5, c5⟩ := cs 5 (by decide)
  obtain ⟨x6, c6⟩ := cs 6 (by decide)
  obtain ⟨x7, c7⟩ := cs 7 (by decide)
  refine (Tryd.binary_BE_PutUint64 d 0 8 8 v hv x0 x1 x2 x3 x4 x5 x6 x7 w (by decide) c0 c1 c2 c3 c4 c5 c6 c7 (fs 0) (fs 1) (fs 2) (fs 3) (fs 4) (fs 5) (fs 6) (fs 7)).mono fun e w' ⟨he, hw⟩ => ?_
  have hd' : (w.alloc (.cells #[] 166)).heap[d]? = some (.cells cur T (0, 0)) := (Below.heap_alloc w _ d (blk_lt hd)).trans hd
  obtain ⟨r1, r2⟩ := byteArr d cur T _ hd' (Lib.beBytes 8 v) (by rw [Lib.beBytes_length]; omega)
  subst hw
  exact ⟨he, r1, ((Two.refl d d w).alloc _).trans r2⟩
theorem put32_any (d v : Nat) (w : World) (ha : Arr w d 4) (hv : v < 4294967296) :
    Calls Tryd.prog 105 #[.agg #[], .slice (some ⟨d, 0, none⟩) 4 4, .int .u32 v] w fun e w' => e = .returned (.tuple #[]) ∧ At w' ⟨d, 0, none⟩ (Lib.beBytes 4 v) ∧ Two d d w w' := by
  obtain ⟨cur, T, hd, hs⟩ := ha
  have cs : ∀ i, i < 4 → ∃ x, w.cell? ⟨d, i, none⟩ = some x := fun i hi => ⟨cur[i], by rw [blk_cell hd i]; simp [hs, hi]⟩
  have fs : ∀ i, w.frozen? ⟨d, i, none⟩ = false := fun i => blk_frozen hd i
  obtain ⟨x0, c0⟩ := cs 0 (by decide)
  obtain ⟨x1, c1⟩ := cs 1 (by decide)
  obtain ⟨x2, c2⟩ := cs 2 (by decide)
  obtain ⟨x3, c3⟩ := cs 3 (by decide)
  refine (Tryd.binary_BE_PutUint32 d 0 4 4 v hv x0 x1 x2 x3 w (by decide) c0 c1 c2 c3 (fs 0) (fs 1) (fs 2) (fs 3)).mono fun e w' ⟨he, hw⟩ => ?_
  have hd' : (w.alloc (.cells #[] 166)).heap[d]? = some (.cells cur T (0, 0)) := (Below.heap_alloc w _ d (blk_lt hd)).trans hd
  obtain ⟨r1, r2⟩ := byteArr d cur T _ hd' (Lib.beBytes 4 v) (by rw [Lib.beBytes_length]; omega)
  subst hw
  exact ⟨he, r1, ((Two.refl d d w).alloc _).trans r2⟩
/-- Behind an array of the call's own nothing else has turned. -/
theorem Two.below {d : Nat} {w0 w w' : World} (h : Two d d w w') (hb : Below w0.heap.size w0 w) (hd : w0.heap.size ≤ d) : Below w0.heap.size w0 w' :=
  ⟨h.os.trans hb.os, h.tape.trans hb.tape, h.output.trans hb.output, Nat.le_trans hb.size h.size, fun k hk => (h.block k (Nat.lt_of_lt_of_le hk hb.size) (by omega) (by omega)).trans (hb.block k hk)⟩
theorem Below.lower {B : Nat} {w0 w w' : World} (hb : Below w0.heap.size w0 w) (hB : B ≤ w0.heap.size) (h : Below B w w') : Below B w0 w' := (hb.mono hB).trans h
set_option maxHeartbeats 2000000 in
set_option maxRecDepth 100000 in
theorem encU64_any (B b v : Nat) (l : List UInt8) (w : World) (h : Bf B b l w) (hv : v < 18446744073709551616) (hlim : l.length + 8 ≤ 140737488355328) :
    Calls Tryd.prog 81 #[.int .u64 v, bfI b] w fun e w' => e = .returned .nilIface ∧ Bf B b (l ++ Lib.beBytes 8 v) w' ∧ Below B w w' := by
  have H := Lib.hid h
  have HV := Lib.hid hv
  have HL := Lib.hid hlim
  clear h hv hlim
  go_enter Tryd.func81, Tryd.ntmps81
  go_wp2
  go_region_with (go_at_call 103; refine (put64_any w.heap.size v _ ?hd HV.out).mono ?_; (case hd => exact ⟨_, _, heap_alloc_new w _, rfl⟩); rintro e_ w1 ⟨rfl, h1, h2⟩; have H1 := Lib.hid h1; have HB := Lib.hid (h2.below (((Below.refl _ w).alloc (Nat.le_refl _) _).drew) (Nat.le_refl _)); clear h1 h2)
  go_wp2_with (go_at_call 102; refine (wrU_any B b l (Lib.beBytes 8 v) ⟨w.heap.size, 0, none⟩ 8 8 w1 (H.out.old HB.out) (Lib.beBytes_length _ _) (by have := H.out.lt; show w.heap.size ≠ b; omega) H1.out HL.out).mono ?_; rintro e_ w2 ⟨rfl, h3, h4, h5⟩; have H2 := Lib.hid (And.intro h3 (Below.lower HB.out H.out.size h4)); clear h3 h4 h5)
  go_ret
  exact ⟨rfl, H2.out⟩
set_option maxHeartbeats 2000000 in
set_option maxRecDepth 100000 in
theorem encU32_any (B b v : Nat) (l : List UInt8) (w : World) (h : Bf B b l w) (hv : v < 4294967296) (hlim : l.length + 4 ≤ 140737488355328) :
    Calls Tryd.prog 80 #[.int .u32 v, bfI b] w fun e w' => e = .returned .nilIface ∧ Bf B b (l ++ Lib.beBytes 4 v) w' ∧ Below B w w' := by
  have H := Lib.hid h
  have HV := Lib.hid hv
  have HL := Lib.hid hlim
  clear h hv hlim
  go_enter Tryd.func80, Tryd.ntmps80
  go_wp2
  go_region_with (go_at_call 105; refine (put32_any w.heap.size v _ ?hd HV.out).mono ?_; (case hd => exact ⟨_, _, heap_alloc_new w _, rfl⟩); rintro e_ w1 ⟨rfl, h1, h2⟩; have H1 := Lib.hid h1; have HB := Lib.hid (h2.below (((Below.refl _ w).alloc (Nat.le_refl _) _).drew) (Nat.le_refl _)); clear h1 h2)
  go_wp2_with (go_at_call 102; refine (wrU_any B b l (Lib.beBytes 4 v) ⟨w.heap.size, 0, none⟩ 4 4 w1 (H.out.old HB.out) (Lib.beBytes_length _ _) (by have := H.out.lt; show w.heap.size ≠ b; omega) H1.out HL.out).mono ?_; rintro e_ w2 ⟨rfl, h3, h4, h5⟩; have H2 := Lib.hid (And.intro h3 (Below.lower HB.out H.out.size h4)); clear h3 h4 h5)
  go_ret
  exact ⟨rfl, H2.out⟩
set_option maxHeartbeats 2000000 in
set_option maxRecDepth 100000 in
theorem encF64_any (B b v : Nat) (l : List UInt8) (w : World) (h : Bf B b l w) (hv : v < 18446744073709551616) (hlim : l.length + 8 ≤ 140737488355328) :
    Calls Tryd.prog 71 #[.float .f64 v, bfI b] w fun e w' => e = .returned .nilIface ∧ Bf B b (l ++ Lib.beBytes 8 v) w' ∧ Below B w w' := by
  have H := Lib.hid h
  have HV := Lib.hid hv
  have HL := Lib.hid hlim
  clear h hv hlim
  have fb : ∀ W, (callFunc 50 #[.float .f64 v]).run Tryd.prog W = .ok (.value (.int .u64 v)) W := fun _ => by kernel_rfl
  go_enter Tryd.func71, Tryd.ntmps71
  go_wp2
  go_region_with (go_at_call 103; refine (put64_any w.heap.size v _ ?hd HV.out).mono ?_; (case hd => exact ⟨_, _, heap_alloc_new w _, rfl⟩); rintro e_ w1 ⟨rfl, h1, h2⟩; have H1 := Lib.hid h1; have HB := Lib.hid (h2.below (((Below.refl _ w).alloc (Nat.le_refl _) _).drew) (Nat.le_refl _)); clear h1 h2)
  all_goals
    go_wp2_with (go_at_call 102; refine (wrU_any B b l (Lib.beBytes 8 v) ⟨w.heap.size, 0, none⟩ 8 8 w1 (H.out.old HB.out) (Lib.beBytes_length _ _) (by have := H.out.lt; show w.heap.size ≠ b; omega) H1.out HL.out).mono ?_; rintro e_ w2 ⟨rfl, h3, h4, h5⟩; have H2 := Lib.hid (And.intro h3 (Below.lower HB.out H.out.size h4)); clear h3 h4 h5)
    go_ret
    exact ⟨rfl, H2.out⟩
set_option maxHeartbeats 2000000 in
set_option maxRecDepth 100000 in
theorem encF32_any (B b v : Nat) (l : List UInt8) (w : World) (h : Bf B b l w) (hv : v < 4294967296) (hlim : l.length + 4 ≤ 140737488355328) :
    Calls Tryd.prog 77 #[.float .f32 v, bfI b] w fun e w' => e = .returned .nilIface ∧ Bf B b (l ++ Lib.beBytes 4 v) w' ∧ Below B w w' := by
  have H := Lib.hid h
  have HV := Lib.hid hv
  have HL := Lib.hid hlim
  clear h hv hlim
  have fb : ∀ W, (callFunc 56 #[.float .f32 v]).run Tryd.prog W = .ok (.value (.int .u32 v)) W := fun _ => by kernel_rfl
  go_enter Tryd.func77, Tryd.ntmps77
  go_wp2
  go_region_with (go_at_call 105; refine (put32_any w.heap.size v _ ?hd HV.out).mono ?_; (case hd => exact ⟨_, _, heap_alloc_new w _, rfl⟩); rintro e_ w1 ⟨rfl, h1, h2⟩; have H1 := Lib.hid h1; have HB := Lib.hid (h2.below (((Below.refl _ w).alloc (Nat.le_refl _) _).drew) (Nat.le_refl _)); clear h1 h2)
  all_goals
    go_wp2_with (go_at_call 102; refine (wrU_any B b l (Lib.beBytes 4 v) ⟨w.heap.size, 0, none⟩ 4 4 w1 (H.out.old HB.out) (Lib.beBytes_length _ _) (by have := H.out.lt; show w.heap.size ≠ b; omega) H1.out HL.out).mono ?_; rintro e_ w2 ⟨rfl, h3, h4, h5⟩; have H2 := Lib.hid (And.intro h3 (Below.lower HB.out H.out.size h4)); clear h3 h4 h5)
    go_ret
    exact ⟨rfl, H2.out⟩
theorem encI32_any (B b : Nat) (t : Int) (l : List UInt8) (w : World) (h : Bf B b l w) (hlim : l.length + 4 ≤ 140737488355328) :
    Calls Tryd.prog 74 #[.int .i32 t, bfI b] w fun e w' => e = .returned .nilIface ∧ Bf B b (l ++ Lib.beBytes 4 (t % 4294967296).toNat) w' ∧ Below B w w' := by
  have hC := encU32_any B b (t % 4294967296).toNat l w h (by omega) hlim
  have e : ((t % 4294967296).toNat : Int) = IntKind.u32.wrap t := by rw [IntKind.wrap_u32]; omega
  rw [e] at hC
  clear h hlim e
  go_enter Tryd.func74, Tryd.ntmps74
  go_wp2_with (go_at_call 80; refine hC.mono ?_; rintro e_ w2 ⟨rfl, h3⟩; have H2 := Lib.hid h3; clear h3)
  go_ret
  exact ⟨rfl, H2.out⟩
theorem millis_any (t : Int) (w : World) : Calls Tryd.prog 104 #[.int .i64 t] w fun e w' => e = .returned (.int .i64 t) ∧ w = w' := by
  go_enter Tryd.func104, Tryd.ntmps104
  go_wp2
  go_ret
  exact ⟨rfl, rfl⟩
theorem encTime_any (B b : Nat) (t : Int) (l : List UInt8) (w : World) (ht0 : -9223372036854775808 ≤ t) (ht1 : t ≤ 9223372036854775807) (h : Bf B b l w) (hlim : l.length + 8 ≤ 140737488355328) :
    Calls Tryd.prog 73 #[.int .i64 t, bfI b] w fun e w' => e = .returned .nilIface ∧ Bf B b (l ++ Lib.beBytes 8 (t + 9223372036854775808).toNat) w' ∧ Below B w w' := by
  have hC := encU64_any B b (t + 9223372036854775808).toNat l w h (by omega) hlim
  obtain ⟨y, hy⟩ : ∃ y, y = wrap64 (t + 9223372036854775808) := ⟨_, rfl⟩
  have e : ((t + 9223372036854775808).toNat : Int) = IntKind.u64.wrap y := by rw [hy, IntKind.wrap_u64]; unfold wrap64; omega
  rw [e] at hC
  have hy2 := hy.symm
  clear h hlim e ht0 ht1 hy
  go_enter Tryd.func73, Tryd.ntmps73
  go_wp2_with (first | (go_at_call 104; refine (millis_any _ _).mono ?_; rintro e_ w1 ⟨rfl, rfl⟩) | (go_at_call 81; refine hC.mono ?_; rintro e_ w2 ⟨rfl, h3⟩; have H2 := Lib.hid h3; clear h3))
  go_ret
  exact ⟨rfl, H2.out⟩
theorem errNew_any (s : ByteArray) (w : World) : Calls Tryd.prog 95 #[.string s] w fun e w' => e = .returned (.iface 182 (.pointer (some ⟨w.heap.size, 0, none⟩))) ∧ w' = w.alloc (.cells #[.string s] 184) := by
  go_enter Tryd.func95, Tryd.ntmps95
  go_wp2
  go_ret
  exact ⟨rfl, rfl⟩
set_option maxHeartbeats 2000000 in
/-- One byte. -/
theorem encBool_any (B b : Nat) (v : Bool) (l : List UInt8) (w : World) (h : Bf B b l w) (hlim : l.length + 1 ≤ 140737488355328) :
    Calls Tryd.prog 68 #[.bool v, bfI b] w fun e w' => e = .returned .nilIface ∧ Bf B b (l ++ [if v then 1 else 0]) w' ∧ Below B w w' := by
  have hb : Below w.heap.size w (w.alloc (.cells #[.int .u8 (if v then 1 else 0)] 5)) := (Below.refl _ w).alloc (Nat.le_refl _) _
  have hC := wrU_any B b l [if v then 1 else 0] ⟨w.heap.size, 0, none⟩ 1 1 (w.alloc (.cells #[.int .u8 (if v then 1 else 0)] 5)) (h.old hb) rfl (by have := h.lt; show w.heap.size ≠ b; omega)
    (At.mk fun j x hj => by
      rw [blk_cell (heap_alloc_new w _) j]
      cases j with
      | zero => simp at hj; subst hj; cases v <;> rfl
      | succ j => simp at hj) hlim
  have H := Lib.hid (And.intro hb h.size)
  clear hb h hlim
  cases v
  all_goals
    go_enter Tryd.func68, Tryd.ntmps68
    go_wp2_with (go_at_call 102; refine hC.mono ?_; rintro e_ w2 ⟨rfl, h3, h4, h5⟩; have H2 := Lib.hid (And.intro h3 (Below.lower H.out.1 H.out.2 h4)); clear h3 h4 h5)
    go_ret
    exact ⟨rfl, H2.out⟩
set_option maxHeartbeats 2000000 in
theorem encByte_any (B b : Nat) (v : UInt8) (l : List UInt8) (w : World) (h : Bf B b l w) (hlim : l.length + 1 ≤ 140737488355328) :
    Calls Tryd.prog 69 #[.int .u8 v.toNat, bfI b] w fun e w' => e = .returned .nilIface ∧ Bf B b (l ++ [v]) w' ∧ Below B w w' := by
  have hb : Below w.heap.size w (w.alloc (.cells #[.int .u8 v.toNat] 5)) := (Below.refl _ w).alloc (Nat.le_refl _) _
  have hC := wrU_any B b l [v] ⟨w.heap.size, 0, none⟩ 1 1 (w.alloc (.cells #[.int .u8 v.toNat] 5)) (h.old hb) rfl (by have := h.lt; show w.heap.size ≠ b; omega)
    (At.mk fun j x hj => by
      rw [blk_cell (heap_alloc_new w _) j]
      cases j with
      | zero => simp at hj; subst hj; rfl
      | succ j => simp at hj) hlim
  have H := Lib.hid (And.intro hb h.size)
  clear hb h hlim
  go_enter Tryd.func69, Tryd.ntmps69
  go_wp2_with (go_at_call 102; refine hC.mono ?_; rintro e_ w2 ⟨rfl, h3, h4, h5⟩; have H2 := Lib.hid (And.intro h3 (Below.lower H.out.1 H.out.2 h4)); clear h3 h4 h5)
  go_ret
  exact ⟨rfl, H2.out⟩
end Go.Proofs.YtgdbeiadlgkedaaDoor
