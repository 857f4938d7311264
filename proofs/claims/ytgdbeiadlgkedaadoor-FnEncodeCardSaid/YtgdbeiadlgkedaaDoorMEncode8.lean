/- Contracts and plain laws, several texts in one. -/
import Derived.Test.YtgdbeiadlgkedaaDoorMEncode7
import Derived.Lib.Varint
import Derived.Deep.RegionHeld3
/- Plain: a pane's bytes, as the printed function tells them. -/
set_option linter.unusedVariables false
set_option linter.unusedSimpArgs false
namespace Go.Proofs.YtgdbeiadlgkedaaDoor
open Go.RowKit PFnPaneEarly
theorem or128b : ∀ d : Fin 256, Go.bits .or .u8 ((d : Nat) : Int) 128 = (((d : Nat) % 128 + 128 : Nat) : Int) := by decide +kernel
theorem sn_one (m : Nat) : strOfNums [((m : Nat) : Int)] = ⟨#[m.toUInt8]⟩ := by simp [strOfNums]
theorem le1 (s : ByteArray) (x : UInt8) (h : s.size + 1 ≤ 1000) : s.size + (⟨#[x]⟩ : ByteArray).size ≤ 9223372036854775807 := Nat.le_trans h (by decide)
theorem varint_l0 : ∀ (n v : Nat) (s : ByteArray), v ≤ n → s.size + (Lib.uvarint v).length ≤ 1000 → ∃ k, spec_CodVarint.l0 k (v : Int) s = some (s ++ ⟨(Lib.uvarint v).toArray⟩) := by
  intro n
  induction n with
  | zero =>
    intro v s hv hs
    obtain rfl : v = 0 := by omega
    refine ⟨1, ?_⟩
    rw [Lib.uvarint_small (by decide)] at hs ⊢
    rw [spec_CodVarint.l0, if_neg (by omega)]
    simp only [Option.bind_some]
    rw [show (((0 : Nat) : Int) % 256) = ((0 : Nat) : Int) by decide, sn_one]
    rw [if_pos (le1 s _ (show s.size + 1 ≤ 1000 from hs))]
  | succ n ih =>
    intro v s hv hs
    by_cases h : v < 128
    · refine ⟨1, ?_⟩
      rw [Lib.uvarint_small h] at hs ⊢
      rw [spec_CodVarint.l0, if_neg (by omega)]
      simp only [Option.bind_some]
      rw [show ((v : Int) % 256) = ((v : Nat) : Int) by omega, sn_one]
      rw [if_pos (le1 s _ (show s.size + 1 ≤ 1000 from hs))]
    · rw [Lib.uvarint_big (by omega)] at hs ⊢
      obtain ⟨k, hk⟩ := ih (v / 128) (s ++ ⟨#[(v % 128 + 128).toUInt8]⟩) (by omega) (by rw [List.length_cons] at hs; rw [ByteArray.size_append]; show s.size + 1 + _ ≤ 1000; omega)
      refine ⟨k + 1, ?_⟩
      rw [spec_CodVarint.l0, if_pos (by omega)]
      simp only [Option.bind_some]
      have e : ((v : Int) % 256) = (((⟨v % 256, by omega⟩ : Fin 256) : Nat) : Int) := by simp
      rw [e, or128b, show ((⟨v % 256, by omega⟩ : Fin 256) : Nat) % 128 + 128 = v % 128 + 128 by simp only; omega, sn_one]
      rw [if_pos (le1 s _ (show s.size + 1 ≤ 1000 by rw [List.length_cons] at hs; omega)), show ((v : Int) / 128) = ((v / 128 : Nat) : Int) by omega, hk]
      congr 1
      apply ByteArray.ext
      simp
theorem varint_some (v : Nat) (hv : v < 18446744073709551616) : ∃ k, spec_CodVarint.f k (v : Int) = some ⟨(Lib.uvarint v).toArray⟩ := by
  obtain ⟨k, hk⟩ := varint_l0 v v ⟨#[]⟩ (Nat.le_refl _) (by have := Lib.uvarint_length64 hv; simp [ByteArray.size]; omega)
  refine ⟨k, ?_⟩
  rw [spec_CodVarint.f, hk]
  congr 1
theorem varint_up (y : Int) (r : ByteArray) : ∀ d k, spec_CodVarint.f k y = some r → spec_CodVarint.f (k + d) y = some r
  | 0, _, h => h
  | d + 1, k, h => spec_CodVarint.mono y (k + d) r (varint_up y r d k h)
/-- A pane's head. -/
def phead (t : Nat) (f l : Bool) : Nat := t * 4 + (if f then 1 else 0) + (if l then 2 else 0)
theorem phead_lt {t : Nat} (h : t < 4) (f l : Bool) : phead t f l < 16 := by unfold phead; split <;> split <;> omega
theorem hd_spec : ∀ (t : Fin 4) (f l : Bool), (if l then Go.bits .or .u8 (if f then Go.bits .or .u8 ((wrap64 (((t : Nat) : Int) * 4)) % 256) 1 else (wrap64 (((t : Nat) : Int) * 4)) % 256) 2 else (if f then Go.bits .or .u8 ((wrap64 (((t : Nat) : Int) * 4)) % 256) 1 else (wrap64 (((t : Nat) : Int) * 4)) % 256)) = (phead t f l : Int) := by decide +kernel
theorem or16 : ∀ (h : Fin 16), Go.bits .or .u8 ((h : Nat) : Int) 16 = (((h : Nat) + 16 : Nat) : Int) := by decide +kernel
theorem or32 : ∀ (h : Fin 16), Go.bits .or .u8 ((h : Nat) : Int) 32 = (((h : Nat) + 32 : Nat) : Int) := by decide +kernel
def u64n (t : Int) : Nat := (t % 18446744073709551616).toNat
theorem u64n_lt (t : Int) : u64n t < 18446744073709551616 := by unfold u64n; omega
theorem u64n_wrap (t : Int) : IntKind.u64.wrap t = (u64n t : Int) := by
  unfold u64n
  simp [IntKind.wrap, IntKind.bits, IntKind.signed]
  omega
def pbytes (t : Nat) (f l : Bool) (i n : Int) : List UInt8 :=
  if (i = 0 ∧ n = 0) ∨ t = 3 then [(phead t f l).toUInt8]
  else if i = n ∨ t = 0 then (phead t f l + 16).toUInt8 :: Lib.uvarint (u64n i)
  else (phead t f l + 32).toUInt8 :: (Lib.uvarint (u64n i) ++ Lib.uvarint (u64n n))
theorem paned_some (t : Nat) (ht : t < 4) (f l : Bool) (i n : Int) : ∃ k, spec_CodPaned.f k (t : Int) f l i n = some ⟨(pbytes t f l i n).toArray⟩ := by
  obtain ⟨k1, h1⟩ := varint_some (u64n i) (u64n_lt i)
  obtain ⟨k2, h2⟩ := varint_some (u64n n) (u64n_lt n)
  have l1 := Lib.uvarint_length64 (u64n_lt i)
  have l2 := Lib.uvarint_length64 (u64n_lt n)
  have hh := hd_spec ⟨t, ht⟩ f l
  simp only at hh
  have hp := phead_lt ht f l
  have o16 := or16 ⟨phead t f l, hp⟩
  have o32 := or32 ⟨phead t f l, hp⟩
  simp only at o16 o32
  refine ⟨k1 + k2 + 4, ?_⟩
  have v1 := varint_up _ _ k2 k1 h1
  have v2 := varint_up _ _ k1 k2 h2
  rw [show k2 + k1 = k1 + k2 by omega] at v2
  have e0 : spec_CodPaned.f (k1 + k2 + 4) (t : Int) f l i n = spec_CodPaned.j1 (k1 + k2 + 3) (phead t f l : Int) (t : Int) f l i n := by
    rw [← hh, spec_CodPaned.f]
    cases f
    · rw [if_neg (by simp), spec_CodPaned.j0]
      cases l
      · rw [if_neg (by simp)]; simp only [Bool.false_eq_true, if_false]
      · rw [if_pos rfl]; simp only [Bool.false_eq_true, if_false, if_true]
    · rw [if_pos rfl, spec_CodPaned.j0]
      cases l
      · rw [if_neg (by simp)]; simp only [Bool.false_eq_true, if_false, if_true]
      · rw [if_pos rfl]; simp only [if_true]
  rw [e0]
  have e3 : ((t : Int) == 3) = decide (t = 3) := by
    rw [Bool.eq_iff_iff]; simp; omega
  have e1 : spec_CodPaned.j1 (k1 + k2 + 3) (phead t f l : Int) (t : Int) f l i n = spec_CodPaned.j2 (k1 + k2 + 2) (phead t f l : Int) (decide ((i = 0 ∧ n = 0) ∨ t = 3)) (t : Int) f l i n := by
    rw [spec_CodPaned.j1, e3]
    by_cases hi : i = 0
    · by_cases hn : n = 0
      · simp [hi, hn]
      · simp [hi, hn]
    · simp [hi]
  rw [e1, spec_CodPaned.j2]
  unfold pbytes
  by_cases c1 : (i = 0 ∧ n = 0) ∨ t = 3
  · rw [if_pos (by simpa using c1), if_pos c1, sn_one]
  · rw [if_neg (by simpa using c1), if_neg c1]
    have e4 : (if i = n then spec_CodPaned.j3 (k1 + k2 + 1) (phead t f l : Int) true (t : Int) f l i n else spec_CodPaned.j3 (k1 + k2 + 1) (phead t f l : Int) ((t : Int) == 0) (t : Int) f l i n) = spec_CodPaned.j3 (k1 + k2 + 1) (phead t f l : Int) (decide (i = n ∨ t = 0)) (t : Int) f l i n := by
      by_cases c2 : i = n
      · simp [c2]
      · rw [if_neg c2, show ((t : Int) == 0) = decide (i = n ∨ t = 0) by rw [Bool.eq_iff_iff]; simp [c2]]
    rw [e4, spec_CodPaned.j3]
    by_cases c3 : i = n ∨ t = 0
    · rw [if_pos (by simpa using c3), if_pos c3]
      simp only [Option.bind_some]
      rw [o16, sn_one, u64n_wrap, v1]
      simp only [Option.bind_some]
      rw [if_pos (by simp [ByteArray.size]; omega)]
      congr 1
    · rw [if_neg (by simpa using c3), if_neg c3]
      simp only [Option.bind_some]
      rw [o32, sn_one, u64n_wrap, u64n_wrap, v1]
      simp only [Option.bind_some]
      rw [if_pos (by simp [ByteArray.size]; omega), v2]
      simp only [Option.bind_some]
      rw [if_pos (by simp [ByteArray.size]; omega)]
      congr 1
end Go.Proofs.YtgdbeiadlgkedaaDoor

/- Contracts: a pane written into a buffer. -/
set_option linter.unusedVariables false
set_option linter.unusedSimpArgs false
namespace Go.Proofs.YtgdbeiadlgkedaaDoor
open Go.RowKit Go.Proofs.YtgdbeiadlgkedaaDoorW.PrintWords Go.Proofs.YtgdbeiadlgkedaaDoorW.PrintLast Go.Proofs.YtgdbeiadlgkedaaDoorW.PrintMore
theorem two_new (w : World) (o1 o2 : Obj) : ((w.alloc o1).alloc o2).heap[w.heap.size + 1]? = some o2 := by have := heap_alloc_new (w.alloc o1) o2; rwa [World.size_alloc] at this
theorem kept100 {b k : Nat} {cs : Array Value} {w w' : World} (h : Lib.OthersKept 5 (some b) w w') (hk : w.heap[k]? = some (.cells cs 100 (0, 0))) (hne : k ≠ b) : w'.heap[k]? = some (.cells cs 100 (0, 0)) :=
  h k _ hk (by simpa using hne) (fun c fz e => by injection e with _ e _; exact absurd e (by decide))
theorem one_wr (B b : Nat) (l0 : List UInt8) (m : Nat) (hm : m < 256) (w : World) (cs : Array Value) (h : Bf B b l0 w) (hlim : l0.length + 1 ≤ 140737488355328) :
    Calls Tryd.prog 132 #[.pointer (some ⟨b, 0, none⟩), .slice (some ⟨w.heap.size + 1, 0, none⟩) 1 1] ((w.alloc (.cells cs 100)).alloc (.cells #[.int .u8 (m : Int)] 5)) fun e w' => e = .returned (.tuple #[.int .i64 1, .nilIface]) ∧ Bf B b (l0 ++ [m.toUInt8]) w' ∧ Below B w w' ∧ w'.heap[w.heap.size]? = some (.cells cs 100 (0, 0)) := by
  have hb : Below w.heap.size w ((w.alloc (.cells cs 100)).alloc (.cells #[.int .u8 (m : Int)] 5)) := ((Below.refl _ w).alloc (Nat.le_refl _) _).alloc (by simp) _
  have hs := h.size
  have hlt := h.lt
  have hx : ((w.alloc (.cells cs 100)).alloc (.cells #[.int .u8 (m : Int)] 5)).heap[w.heap.size]? = some (.cells cs 100 (0, 0)) := blk_alloc (heap_alloc_new w (.cells cs 100)) _
  refine (write_any B b l0 [m.toUInt8] ⟨w.heap.size + 1, 0, none⟩ 1 1 _ (h.old hb) rfl (by show w.heap.size + 1 ≠ b; omega) (At.mk fun j x hj => ?_) hlim).mono fun e w' ⟨h1, h2, h3, h4⟩ => ⟨h1, h2, Below.lower hb hs h3, kept100 h4 hx (by omega)⟩
  have hn := heap_alloc_new (w.alloc (.cells cs 100)) (.cells #[.int .u8 (m : Int)] 5)
  rw [World.size_alloc] at hn
  rw [blk_cell hn j]
  cases j with
  | zero => simp at hj; subst hj; simp [Nat.toUInt8, UInt8.toNat_ofNat', Nat.mod_eq_of_lt hm]
  | succ j => simp at hj
theorem hd_enc : ∀ (t : Fin 4) (f l : Bool), Go.bits .or .u8 (if l then Go.bits .or .u8 (if f then Go.bits .or .u8 0 1 else 0) 2 else (if f then Go.bits .or .u8 0 1 else 0)) (((t : Nat) : Int) * 4) = (phead t f l : Int) := by decide +kernel
theorem u64_same (i : Int) : u64of i = u64n i := rfl

set_option maxHeartbeats 2000000 in
set_option maxRecDepth 100000 in
theorem encPane_a1 (B b : Nat) (t : Nat) (ht : t < 4) (f l : Bool) (i n : Int) (hi : i = 0) (hn : n = 0) (l0 : List UInt8) (w : World) (h : Bf B b l0 w) (hlim : l0.length + 100 ≤ 140737488355328) :
    Calls Tryd.prog 75 #[.agg #[.int .u8 t, .bool f, .bool l, .int .i64 i, .int .i64 n], bfI b] w fun e w' => e = .returned .nilIface ∧ Bf B b (l0 ++ [(phead t f l).toUInt8]) w' ∧ Below B w w' := by
  have H := Lib.hid h
  have HL := Lib.hid hlim
  have P1 := hd_enc ⟨t, ht⟩ f l
  have O16 := or16 ⟨phead t f l, phead_lt ht f l⟩
  have O32 := or32 ⟨phead t f l, phead_lt ht f l⟩
  have hp := phead_lt ht f l
  simp only at P1 O16 O32
  generalize phead t f l = ph at P1 O16 O32 hp ⊢
  obtain ⟨m16, h16⟩ : ∃ m, ph + 16 = m := ⟨_, rfl⟩
  obtain ⟨m32, h32⟩ : ∃ m, ph + 32 = m := ⟨_, rfl⟩
  rw [h16] at O16
  rw [h32] at O32
  try rw [h16]
  try rw [h32]
  have HM := Lib.hid (And.intro hp (And.intro h16 h32))
  clear h hlim hp h16 h32
  subst hi
  subst hn
  cases f <;> cases l <;> (
    simp only [Bool.false_eq_true, if_false, if_true] at P1
    go_enter Tryd.func75, Tryd.ntmps75
    go_wp2_with (first
      | (go_at_call 132; (refine (one_wr B b l0 ph (by have := HM.out; omega) w _ H.out (by have := HL.out; omega)).mono ?_; rintro e_ w1 ⟨rfl, h1, h2, h3⟩; have H1 := Lib.hid h1; have H2 := Lib.hid h2; have HX := Lib.hid h3; have x3 := (blk_cell h3 3).trans (rfl : _ = some (Value.int .i64 (0))); have x4 := (blk_cell h3 4).trans (rfl : _ = some (Value.int .i64 (0))); clear h1 h2 h3)))
    go_ret
    exact ⟨rfl, H1.out, H2.out⟩)

set_option maxHeartbeats 2000000 in
set_option maxRecDepth 100000 in
theorem encPane_a2 (B b : Nat) (t : Nat) (ht : t < 4) (f l : Bool) (i n : Int) (ht3 : t = 3) (hi : i ≠ 0) (l0 : List UInt8) (w : World) (h : Bf B b l0 w) (hlim : l0.length + 100 ≤ 140737488355328) :
    Calls Tryd.prog 75 #[.agg #[.int .u8 t, .bool f, .bool l, .int .i64 i, .int .i64 n], bfI b] w fun e w' => e = .returned .nilIface ∧ Bf B b (l0 ++ [(phead t f l).toUInt8]) w' ∧ Below B w w' := by
  have H := Lib.hid h
  have HL := Lib.hid hlim
  have P1 := hd_enc ⟨t, ht⟩ f l
  have O16 := or16 ⟨phead t f l, phead_lt ht f l⟩
  have O32 := or32 ⟨phead t f l, phead_lt ht f l⟩
  have hp := phead_lt ht f l
  simp only at P1 O16 O32
  generalize phead t f l = ph at P1 O16 O32 hp ⊢
  obtain ⟨m16, h16⟩ : ∃ m, ph + 16 = m := ⟨_, rfl⟩
  obtain ⟨m32, h32⟩ : ∃ m, ph + 32 = m := ⟨_, rfl⟩
  rw [h16] at O16
  rw [h32] at O32
  try rw [h16]
  try rw [h32]
  have HM := Lib.hid (And.intro hp (And.intro h16 h32))
  clear h hlim hp h16 h32
  have k3 : ((t : Int) == 3) = true := beq_iff_eq.2 (by omega)
  have qi : (i == 0) = false := beq_eq_false_iff_ne.2 (hi)
  clear hi ht3
  cases f <;> cases l <;> (
    simp only [Bool.false_eq_true, if_false, if_true] at P1
    go_enter Tryd.func75, Tryd.ntmps75
    go_wp2_with (first
      | (go_at_call 132; (refine (one_wr B b l0 ph (by have := HM.out; omega) w _ H.out (by have := HL.out; omega)).mono ?_; rintro e_ w1 ⟨rfl, h1, h2, h3⟩; have H1 := Lib.hid h1; have H2 := Lib.hid h2; have HX := Lib.hid h3; have x3 := (blk_cell h3 3).trans (rfl : _ = some (Value.int .i64 (i))); have x4 := (blk_cell h3 4).trans (rfl : _ = some (Value.int .i64 (n))); clear h1 h2 h3)))
    go_ret
    exact ⟨rfl, H1.out, H2.out⟩)

set_option maxHeartbeats 2000000 in
set_option maxRecDepth 100000 in
theorem encPane_a3 (B b : Nat) (t : Nat) (ht : t < 4) (f l : Bool) (i n : Int) (ht3 : t = 3) (hi : i = 0) (hn : n ≠ 0) (l0 : List UInt8) (w : World) (h : Bf B b l0 w) (hlim : l0.length + 100 ≤ 140737488355328) :
    Calls Tryd.prog 75 #[.agg #[.int .u8 t, .bool f, .bool l, .int .i64 i, .int .i64 n], bfI b] w fun e w' => e = .returned .nilIface ∧ Bf B b (l0 ++ [(phead t f l).toUInt8]) w' ∧ Below B w w' := by
  have H := Lib.hid h
  have HL := Lib.hid hlim
  have P1 := hd_enc ⟨t, ht⟩ f l
  have O16 := or16 ⟨phead t f l, phead_lt ht f l⟩
  have O32 := or32 ⟨phead t f l, phead_lt ht f l⟩
  have hp := phead_lt ht f l
  simp only at P1 O16 O32
  generalize phead t f l = ph at P1 O16 O32 hp ⊢
  obtain ⟨m16, h16⟩ : ∃ m, ph + 16 = m := ⟨_, rfl⟩
  obtain ⟨m32, h32⟩ : ∃ m, ph + 32 = m := ⟨_, rfl⟩
  rw [h16] at O16
  rw [h32] at O32
  try rw [h16]
  try rw [h32]
  have HM := Lib.hid (And.intro hp (And.intro h16 h32))
  clear h hlim hp h16 h32
  subst hi
  have k3 : ((t : Int) == 3) = true := beq_iff_eq.2 (by omega)
  have qn : (n == 0) = false := beq_eq_false_iff_ne.2 (hn)
  clear hn ht3
  cases f <;> cases l <;> (
    simp only [Bool.false_eq_true, if_false, if_true] at P1
    go_enter Tryd.func75, Tryd.ntmps75
    go_wp2_with (first
      | (go_at_call 132; (refine (one_wr B b l0 ph (by have := HM.out; omega) w _ H.out (by have := HL.out; omega)).mono ?_; rintro e_ w1 ⟨rfl, h1, h2, h3⟩; have H1 := Lib.hid h1; have H2 := Lib.hid h2; have HX := Lib.hid h3; have x3 := (blk_cell h3 3).trans (rfl : _ = some (Value.int .i64 (0))); have x4 := (blk_cell h3 4).trans (rfl : _ = some (Value.int .i64 (n))); clear h1 h2 h3)))
    go_ret
    exact ⟨rfl, H1.out, H2.out⟩)

set_option maxHeartbeats 2000000 in
set_option maxRecDepth 100000 in
theorem encPane_b1 (B b : Nat) (t : Nat) (ht : t < 4) (f l : Bool) (i n : Int) (ht3 : t ≠ 3) (ht0 : t ≠ 0) (hi : i ≠ 0) (hin : i = n) (l0 : List UInt8) (w : World) (h : Bf B b l0 w) (hlim : l0.length + 100 ≤ 140737488355328) :
    Calls Tryd.prog 75 #[.agg #[.int .u8 t, .bool f, .bool l, .int .i64 i, .int .i64 n], bfI b] w fun e w' => e = .returned .nilIface ∧ Bf B b (l0 ++ ((phead t f l + 16).toUInt8 :: Lib.uvarint (u64of i))) w' ∧ Below B w w' := by
  have H := Lib.hid h
  have HL := Lib.hid hlim
  have P1 := hd_enc ⟨t, ht⟩ f l
  have O16 := or16 ⟨phead t f l, phead_lt ht f l⟩
  have O32 := or32 ⟨phead t f l, phead_lt ht f l⟩
  have hp := phead_lt ht f l
  simp only at P1 O16 O32
  generalize phead t f l = ph at P1 O16 O32 hp ⊢
  obtain ⟨m16, h16⟩ : ∃ m, ph + 16 = m := ⟨_, rfl⟩
  obtain ⟨m32, h32⟩ : ∃ m, ph + 32 = m := ⟨_, rfl⟩
  rw [h16] at O16
  rw [h32] at O32
  try rw [h16]
  try rw [h32]
  have HM := Lib.hid (And.intro hp (And.intro h16 h32))
  clear h hlim hp h16 h32
  subst hin
  have k3 : ((t : Int) == 3) = false := beq_eq_false_iff_ne.2 (by omega)
  have k0 : ((t : Int) == 0) = false := beq_eq_false_iff_ne.2 (by omega)
  have qi : (i == 0) = false := beq_eq_false_iff_ne.2 (hi)
  clear hi ht3 ht0
  cases f <;> cases l <;> (
    simp only [Bool.false_eq_true, if_false, if_true] at P1
    go_enter Tryd.func75, Tryd.ntmps75
    go_wp2_with (first
      | (go_at_call 132; (refine (one_wr B b l0 m16 (by have := HM.out; omega) w _ H.out (by have := HL.out; omega)).mono ?_; rintro e_ w1 ⟨rfl, h1, h2, h3⟩; have H1 := Lib.hid h1; have H2 := Lib.hid h2; have HX := Lib.hid h3; have x3 := (blk_cell h3 3).trans (rfl : _ = some (Value.int .i64 (i))); have x4 := (blk_cell h3 4).trans (rfl : _ = some (Value.int .i64 (i))); clear h1 h2 h3))
      | (go_at_call 82; (with_reducible refine (encVarI_any B b (i) _ w1 H1.out (by have := HL.out; simp only [List.length_append, List.length_singleton]; omega)).mono ?_); rintro e_ w2 ⟨rfl, h1, h2, h3⟩; have H3 := Lib.hid h1; have H4 := Lib.hid (H2.out.trans h2); have hx := kept100 h3 HX.out (by have := H.out.lt; omega); have x4 := (blk_cell hx 4).trans (rfl : _ = some (Value.int .i64 (i))); clear h1 h2 h3 hx))
    go_ret
    exact ⟨rfl, by have h := H3.out; rw [List.append_assoc] at h; exact h, H4.out⟩)
end Go.Proofs.YtgdbeiadlgkedaaDoor

/- Contracts: a pane written into a buffer. -/
set_option linter.unusedVariables false
set_option linter.unusedSimpArgs false
namespace Go.Proofs.YtgdbeiadlgkedaaDoor
open Go.RowKit Go.Proofs.YtgdbeiadlgkedaaDoorW.PrintWords Go.Proofs.YtgdbeiadlgkedaaDoorW.PrintLast Go.Proofs.YtgdbeiadlgkedaaDoorW.PrintMore

set_option maxHeartbeats 2000000 in
set_option maxRecDepth 100000 in
theorem encPane_b2 (B b : Nat) (t : Nat) (ht : t < 4) (f l : Bool) (i n : Int) (ht0 : t = 0) (hi : i ≠ 0) (hi1 : i ≠ -1) (hn : n = -1) (l0 : List UInt8) (w : World) (h : Bf B b l0 w) (hlim : l0.length + 100 ≤ 140737488355328) :
    Calls Tryd.prog 75 #[.agg #[.int .u8 t, .bool f, .bool l, .int .i64 i, .int .i64 n], bfI b] w fun e w' => e = .returned .nilIface ∧ Bf B b (l0 ++ ((phead t f l + 16).toUInt8 :: Lib.uvarint (u64of i))) w' ∧ Below B w w' := by
  have H := Lib.hid h
  have HL := Lib.hid hlim
  have P1 := hd_enc ⟨t, ht⟩ f l
  have O16 := or16 ⟨phead t f l, phead_lt ht f l⟩
  have O32 := or32 ⟨phead t f l, phead_lt ht f l⟩
  have hp := phead_lt ht f l
  simp only at P1 O16 O32
  generalize phead t f l = ph at P1 O16 O32 hp ⊢
  obtain ⟨m16, h16⟩ : ∃ m, ph + 16 = m := ⟨_, rfl⟩
  obtain ⟨m32, h32⟩ : ∃ m, ph + 32 = m := ⟨_, rfl⟩
  rw [h16] at O16
  rw [h32] at O32
  try rw [h16]
  try rw [h32]
  have HM := Lib.hid (And.intro hp (And.intro h16 h32))
  clear h hlim hp h16 h32
  subst hn
  have qi1 : (i == -1) = false := beq_eq_false_iff_ne.2 (hi1)
  have k3 : ((t : Int) == 3) = false := beq_eq_false_iff_ne.2 (by omega)
  have k0 : ((t : Int) == 0) = true := beq_iff_eq.2 (by omega)
  have qi : (i == 0) = false := beq_eq_false_iff_ne.2 (hi)
  clear hi hi1 ht0
  cases f <;> cases l <;> (
    simp only [Bool.false_eq_true, if_false, if_true] at P1
    go_enter Tryd.func75, Tryd.ntmps75
    go_wp2_with (first
      | (go_at_call 132; (refine (one_wr B b l0 m16 (by have := HM.out; omega) w _ H.out (by have := HL.out; omega)).mono ?_; rintro e_ w1 ⟨rfl, h1, h2, h3⟩; have H1 := Lib.hid h1; have H2 := Lib.hid h2; have HX := Lib.hid h3; have x3 := (blk_cell h3 3).trans (rfl : _ = some (Value.int .i64 (i))); have x4 := (blk_cell h3 4).trans (rfl : _ = some (Value.int .i64 (-1))); clear h1 h2 h3))
      | (go_at_call 82; (with_reducible refine (encVarI_any B b (i) _ w1 H1.out (by have := HL.out; simp only [List.length_append, List.length_singleton]; omega)).mono ?_); rintro e_ w2 ⟨rfl, h1, h2, h3⟩; have H3 := Lib.hid h1; have H4 := Lib.hid (H2.out.trans h2); have hx := kept100 h3 HX.out (by have := H.out.lt; omega); have x4 := (blk_cell hx 4).trans (rfl : _ = some (Value.int .i64 (-1))); clear h1 h2 h3 hx))
    go_ret
    exact ⟨rfl, by have h := H3.out; rw [List.append_assoc] at h; exact h, H4.out⟩)

set_option maxHeartbeats 2000000 in
set_option maxRecDepth 100000 in
theorem encPane_b3 (B b : Nat) (t : Nat) (ht : t < 4) (f l : Bool) (i n : Int) (ht0 : t = 0) (hi : i = 0) (hn : n = -1) (l0 : List UInt8) (w : World) (h : Bf B b l0 w) (hlim : l0.length + 100 ≤ 140737488355328) :
    Calls Tryd.prog 75 #[.agg #[.int .u8 t, .bool f, .bool l, .int .i64 i, .int .i64 n], bfI b] w fun e w' => e = .returned .nilIface ∧ Bf B b (l0 ++ ((phead t f l + 16).toUInt8 :: Lib.uvarint (u64of i))) w' ∧ Below B w w' := by
  have H := Lib.hid h
  have HL := Lib.hid hlim
  have P1 := hd_enc ⟨t, ht⟩ f l
  have O16 := or16 ⟨phead t f l, phead_lt ht f l⟩
  have O32 := or32 ⟨phead t f l, phead_lt ht f l⟩
  have hp := phead_lt ht f l
  simp only at P1 O16 O32
  generalize phead t f l = ph at P1 O16 O32 hp ⊢
  obtain ⟨m16, h16⟩ : ∃ m, ph + 16 = m := ⟨_, rfl⟩
  obtain ⟨m32, h32⟩ : ∃ m, ph + 32 = m := ⟨_, rfl⟩
  rw [h16] at O16
  rw [h32] at O32
  try rw [h16]
  try rw [h32]
  have HM := Lib.hid (And.intro hp (And.intro h16 h32))
  clear h hlim hp h16 h32
  subst hn
  subst hi
  have k3 : ((t : Int) == 3) = false := beq_eq_false_iff_ne.2 (by omega)
  have k0 : ((t : Int) == 0) = true := beq_iff_eq.2 (by omega)
  clear ht0
  cases f <;> cases l <;> (
    simp only [Bool.false_eq_true, if_false, if_true] at P1
    go_enter Tryd.func75, Tryd.ntmps75
    go_wp2_with (first
      | (go_at_call 132; (refine (one_wr B b l0 m16 (by have := HM.out; omega) w _ H.out (by have := HL.out; omega)).mono ?_; rintro e_ w1 ⟨rfl, h1, h2, h3⟩; have H1 := Lib.hid h1; have H2 := Lib.hid h2; have HX := Lib.hid h3; have x3 := (blk_cell h3 3).trans (rfl : _ = some (Value.int .i64 (0))); have x4 := (blk_cell h3 4).trans (rfl : _ = some (Value.int .i64 (-1))); clear h1 h2 h3))
      | (go_at_call 82; (with_reducible refine (encVarI_any B b (0) _ w1 H1.out (by have := HL.out; simp only [List.length_append, List.length_singleton]; omega)).mono ?_); rintro e_ w2 ⟨rfl, h1, h2, h3⟩; have H3 := Lib.hid h1; have H4 := Lib.hid (H2.out.trans h2); have hx := kept100 h3 HX.out (by have := H.out.lt; omega); have x4 := (blk_cell hx 4).trans (rfl : _ = some (Value.int .i64 (-1))); clear h1 h2 h3 hx))
    go_ret
    exact ⟨rfl, by have h := H3.out; rw [List.append_assoc] at h; exact h, H4.out⟩)

set_option maxHeartbeats 2000000 in
set_option maxRecDepth 100000 in
theorem encPane_b4 (B b : Nat) (t : Nat) (ht : t < 4) (f l : Bool) (i n : Int) (ht0 : t = 0) (hi : i = -1) (hn : n = -1) (l0 : List UInt8) (w : World) (h : Bf B b l0 w) (hlim : l0.length + 100 ≤ 140737488355328) :
    Calls Tryd.prog 75 #[.agg #[.int .u8 t, .bool f, .bool l, .int .i64 i, .int .i64 n], bfI b] w fun e w' => e = .returned .nilIface ∧ Bf B b (l0 ++ ((phead t f l + 16).toUInt8 :: Lib.uvarint (u64of i))) w' ∧ Below B w w' := by
  have H := Lib.hid h
  have HL := Lib.hid hlim
  have P1 := hd_enc ⟨t, ht⟩ f l
  have O16 := or16 ⟨phead t f l, phead_lt ht f l⟩
  have O32 := or32 ⟨phead t f l, phead_lt ht f l⟩
  have hp := phead_lt ht f l
  simp only at P1 O16 O32
  generalize phead t f l = ph at P1 O16 O32 hp ⊢
  obtain ⟨m16, h16⟩ : ∃ m, ph + 16 = m := ⟨_, rfl⟩
  obtain ⟨m32, h32⟩ : ∃ m, ph + 32 = m := ⟨_, rfl⟩
  rw [h16] at O16
  rw [h32] at O32
  try rw [h16]
  try rw [h32]
  have HM := Lib.hid (And.intro hp (And.intro h16 h32))
  clear h hlim hp h16 h32
  subst hn
  subst hi
  have k3 : ((t : Int) == 3) = false := beq_eq_false_iff_ne.2 (by omega)
  have k0 : ((t : Int) == 0) = true := beq_iff_eq.2 (by omega)
  clear ht0
  cases f <;> cases l <;> (
    simp only [Bool.false_eq_true, if_false, if_true] at P1
    go_enter Tryd.func75, Tryd.ntmps75
    go_wp2_with (first
      | (go_at_call 132; (refine (one_wr B b l0 m16 (by have := HM.out; omega) w _ H.out (by have := HL.out; omega)).mono ?_; rintro e_ w1 ⟨rfl, h1, h2, h3⟩; have H1 := Lib.hid h1; have H2 := Lib.hid h2; have HX := Lib.hid h3; have x3 := (blk_cell h3 3).trans (rfl : _ = some (Value.int .i64 (-1))); have x4 := (blk_cell h3 4).trans (rfl : _ = some (Value.int .i64 (-1))); clear h1 h2 h3))
      | (go_at_call 82; (with_reducible refine (encVarI_any B b (-1) _ w1 H1.out (by have := HL.out; simp only [List.length_append, List.length_singleton]; omega)).mono ?_); rintro e_ w2 ⟨rfl, h1, h2, h3⟩; have H3 := Lib.hid h1; have H4 := Lib.hid (H2.out.trans h2); have hx := kept100 h3 HX.out (by have := H.out.lt; omega); have x4 := (blk_cell hx 4).trans (rfl : _ = some (Value.int .i64 (-1))); clear h1 h2 h3 hx))
    go_ret
    exact ⟨rfl, by have h := H3.out; rw [List.append_assoc] at h; exact h, H4.out⟩)

set_option maxHeartbeats 2000000 in
set_option maxRecDepth 100000 in
theorem encPane_c1 (B b : Nat) (t : Nat) (ht : t < 4) (f l : Bool) (i n : Int) (ht3 : t ≠ 3) (ht0 : t ≠ 0) (hi : i ≠ 0) (hin : i ≠ n) (l0 : List UInt8) (w : World) (h : Bf B b l0 w) (hlim : l0.length + 100 ≤ 140737488355328) :
    Calls Tryd.prog 75 #[.agg #[.int .u8 t, .bool f, .bool l, .int .i64 i, .int .i64 n], bfI b] w fun e w' => e = .returned .nilIface ∧ Bf B b (l0 ++ ((phead t f l + 32).toUInt8 :: (Lib.uvarint (u64of i) ++ Lib.uvarint (u64of n)))) w' ∧ Below B w w' := by
  have H := Lib.hid h
  have HL := Lib.hid hlim
  have P1 := hd_enc ⟨t, ht⟩ f l
  have O16 := or16 ⟨phead t f l, phead_lt ht f l⟩
  have O32 := or32 ⟨phead t f l, phead_lt ht f l⟩
  have hp := phead_lt ht f l
  simp only at P1 O16 O32
  generalize phead t f l = ph at P1 O16 O32 hp ⊢
  obtain ⟨m16, h16⟩ : ∃ m, ph + 16 = m := ⟨_, rfl⟩
  obtain ⟨m32, h32⟩ : ∃ m, ph + 32 = m := ⟨_, rfl⟩
  rw [h16] at O16
  rw [h32] at O32
  try rw [h16]
  try rw [h32]
  have HM := Lib.hid (And.intro hp (And.intro h16 h32))
  clear h hlim hp h16 h32
  have k3 : ((t : Int) == 3) = false := beq_eq_false_iff_ne.2 (by omega)
  have k0 : ((t : Int) == 0) = false := beq_eq_false_iff_ne.2 (by omega)
  have qi : (i == 0) = false := beq_eq_false_iff_ne.2 (hi)
  have qin : (i == n) = false := beq_eq_false_iff_ne.2 (hin)
  clear hi ht3 ht0 hin
  cases f <;> cases l <;> (
    simp only [Bool.false_eq_true, if_false, if_true] at P1
    go_enter Tryd.func75, Tryd.ntmps75
    go_wp2_with (first
      | (go_at_call 132; (refine (one_wr B b l0 m32 (by have := HM.out; omega) w _ H.out (by have := HL.out; omega)).mono ?_; rintro e_ w1 ⟨rfl, h1, h2, h3⟩; have H1 := Lib.hid h1; have H2 := Lib.hid h2; have HX := Lib.hid h3; have x3 := (blk_cell h3 3).trans (rfl : _ = some (Value.int .i64 (i))); have x4 := (blk_cell h3 4).trans (rfl : _ = some (Value.int .i64 (n))); clear h1 h2 h3))
      | (go_at_call 82; (with_reducible refine (encVarI_any B b (i) _ w1 H1.out (by have := HL.out; simp only [List.length_append, List.length_singleton]; omega)).mono ?_); rintro e_ w2 ⟨rfl, h1, h2, h3⟩; have H3 := Lib.hid h1; have H4 := Lib.hid (H2.out.trans h2); have hx := kept100 h3 HX.out (by have := H.out.lt; omega); have x4 := (blk_cell hx 4).trans (rfl : _ = some (Value.int .i64 (n))); clear h1 h2 h3 hx)
      | (go_at_call 82; (with_reducible refine (encVarI_any B b (n) _ w2 H3.out (by have := HL.out; have := Lib.uvarint_length64 (u64of_lt (i)); simp only [List.length_append, List.length_singleton]; omega)).mono ?_); rintro e_ w3 ⟨rfl, h1, h2, _⟩; have H5 := Lib.hid h1; have H6 := Lib.hid (H4.out.trans h2); clear h1 h2))
    go_ret
    exact ⟨rfl, by have h := H5.out; rw [List.append_assoc, List.append_assoc] at h; exact h, H6.out⟩)
end Go.Proofs.YtgdbeiadlgkedaaDoor

/- Contracts: a pane written into a buffer. -/
set_option linter.unusedVariables false
set_option linter.unusedSimpArgs false
namespace Go.Proofs.YtgdbeiadlgkedaaDoor
open Go.RowKit Go.Proofs.YtgdbeiadlgkedaaDoorW.PrintWords Go.Proofs.YtgdbeiadlgkedaaDoorW.PrintLast Go.Proofs.YtgdbeiadlgkedaaDoorW.PrintMore

set_option maxHeartbeats 2000000 in
set_option maxRecDepth 100000 in
theorem encPane_c2 (B b : Nat) (t : Nat) (ht : t < 4) (f l : Bool) (i n : Int) (ht3 : t ≠ 3) (ht0 : t ≠ 0) (hi : i = 0) (hn : n ≠ 0) (l0 : List UInt8) (w : World) (h : Bf B b l0 w) (hlim : l0.length + 100 ≤ 140737488355328) :
    Calls Tryd.prog 75 #[.agg #[.int .u8 t, .bool f, .bool l, .int .i64 i, .int .i64 n], bfI b] w fun e w' => e = .returned .nilIface ∧ Bf B b (l0 ++ ((phead t f l + 32).toUInt8 :: (Lib.uvarint (u64of i) ++ Lib.uvarint (u64of n)))) w' ∧ Below B w w' := by
  have H := Lib.hid h
  have HL := Lib.hid hlim
  have P1 := hd_enc ⟨t, ht⟩ f l
  have O16 := or16 ⟨phead t f l, phead_lt ht f l⟩
  have O32 := or32 ⟨phead t f l, phead_lt ht f l⟩
  have hp := phead_lt ht f l
  simp only at P1 O16 O32
  generalize phead t f l = ph at P1 O16 O32 hp ⊢
  obtain ⟨m16, h16⟩ : ∃ m, ph + 16 = m := ⟨_, rfl⟩
  obtain ⟨m32, h32⟩ : ∃ m, ph + 32 = m := ⟨_, rfl⟩
  rw [h16] at O16
  rw [h32] at O32
  try rw [h16]
  try rw [h32]
  have HM := Lib.hid (And.intro hp (And.intro h16 h32))
  clear h hlim hp h16 h32
  have k3 : ((t : Int) == 3) = false := beq_eq_false_iff_ne.2 (by omega)
  have k0 : ((t : Int) == 0) = false := beq_eq_false_iff_ne.2 (by omega)
  subst hi
  have qn : (n == 0) = false := beq_eq_false_iff_ne.2 (hn)
  have qin : ((0 : Int) == n) = false := beq_eq_false_iff_ne.2 (fun e => hn e.symm)
  clear hn ht3 ht0
  cases f <;> cases l <;> (
    simp only [Bool.false_eq_true, if_false, if_true] at P1
    go_enter Tryd.func75, Tryd.ntmps75
    go_wp2_with (first
      | (go_at_call 132; (refine (one_wr B b l0 m32 (by have := HM.out; omega) w _ H.out (by have := HL.out; omega)).mono ?_; rintro e_ w1 ⟨rfl, h1, h2, h3⟩; have H1 := Lib.hid h1; have H2 := Lib.hid h2; have HX := Lib.hid h3; have x3 := (blk_cell h3 3).trans (rfl : _ = some (Value.int .i64 (0))); have x4 := (blk_cell h3 4).trans (rfl : _ = some (Value.int .i64 (n))); clear h1 h2 h3))
      | (go_at_call 82; (with_reducible refine (encVarI_any B b (0) _ w1 H1.out (by have := HL.out; simp only [List.length_append, List.length_singleton]; omega)).mono ?_); rintro e_ w2 ⟨rfl, h1, h2, h3⟩; have H3 := Lib.hid h1; have H4 := Lib.hid (H2.out.trans h2); have hx := kept100 h3 HX.out (by have := H.out.lt; omega); have x4 := (blk_cell hx 4).trans (rfl : _ = some (Value.int .i64 (n))); clear h1 h2 h3 hx)
      | (go_at_call 82; (with_reducible refine (encVarI_any B b (n) _ w2 H3.out (by have := HL.out; have := Lib.uvarint_length64 (u64of_lt (0)); simp only [List.length_append, List.length_singleton]; omega)).mono ?_); rintro e_ w3 ⟨rfl, h1, h2, _⟩; have H5 := Lib.hid h1; have H6 := Lib.hid (H4.out.trans h2); clear h1 h2))
    go_ret
    exact ⟨rfl, by have h := H5.out; rw [List.append_assoc, List.append_assoc] at h; exact h, H6.out⟩)

set_option maxHeartbeats 2000000 in
set_option maxRecDepth 100000 in
theorem encPane_d1 (B b : Nat) (t : Nat) (ht : t < 4) (f l : Bool) (i n : Int) (ht0 : t = 0) (hi : i ≠ 0) (hin : i ≠ n) (hn : n ≠ -1) (l0 : List UInt8) (w : World) (h : Bf B b l0 w) (hlim : l0.length + 100 ≤ 140737488355328) :
    Calls Tryd.prog 75 #[.agg #[.int .u8 t, .bool f, .bool l, .int .i64 i, .int .i64 n], bfI b] w fun e w' => ∃ a s, e = .returned (errV a) ∧ w'.cell? a = some (.string s) ∧ s.data.toList ≠ [] ∧ Below B w w' ∧ Bf B b l0 w' := by
  have H := Lib.hid h
  have HL := Lib.hid hlim
  have P1 := hd_enc ⟨t, ht⟩ f l
  have O16 := or16 ⟨phead t f l, phead_lt ht f l⟩
  have O32 := or32 ⟨phead t f l, phead_lt ht f l⟩
  have hp := phead_lt ht f l
  simp only at P1 O16 O32
  generalize phead t f l = ph at P1 O16 O32 hp ⊢
  obtain ⟨m16, h16⟩ : ∃ m, ph + 16 = m := ⟨_, rfl⟩
  obtain ⟨m32, h32⟩ : ∃ m, ph + 32 = m := ⟨_, rfl⟩
  rw [h16] at O16
  rw [h32] at O32
  try rw [h16]
  try rw [h32]
  have HM := Lib.hid (And.intro hp (And.intro h16 h32))
  clear h hlim hp h16 h32
  have k3 : ((t : Int) == 3) = false := beq_eq_false_iff_ne.2 (by omega)
  have k0 : ((t : Int) == 0) = true := beq_iff_eq.2 (by omega)
  have qi : (i == 0) = false := beq_eq_false_iff_ne.2 (hi)
  have qin : (i == n) = false := beq_eq_false_iff_ne.2 (hin)
  have qn : (n != -1) = true := bne_iff_ne.2 hn
  clear hi ht0 hin hn
  cases f <;> cases l <;> (
    simp only [Bool.false_eq_true, if_false, if_true] at P1
    go_enter Tryd.func75, Tryd.ntmps75
    go_wp2_with (first
      | (go_at_call 95; refine (errNew_any _ _).mono ?_; rintro e_ w1 ⟨rfl, rfl⟩))
    go_ret
    refine ⟨⟨w.heap.size + 1, 0, none⟩, _, rfl, (blk_cell (two_new w _ _) 0).trans rfl, ?_, (below_alloc (below_alloc (Below.refl w.heap.size w) _) _).mono H.out.size, H.out.old (below_alloc (below_alloc (Below.refl w.heap.size w) _) _)⟩; simp)

set_option maxHeartbeats 2000000 in
set_option maxRecDepth 100000 in
theorem encPane_d2 (B b : Nat) (t : Nat) (ht : t < 4) (f l : Bool) (i n : Int) (ht0 : t = 0) (hi : i = 0) (hn0 : n ≠ 0) (hn : n ≠ -1) (l0 : List UInt8) (w : World) (h : Bf B b l0 w) (hlim : l0.length + 100 ≤ 140737488355328) :
    Calls Tryd.prog 75 #[.agg #[.int .u8 t, .bool f, .bool l, .int .i64 i, .int .i64 n], bfI b] w fun e w' => ∃ a s, e = .returned (errV a) ∧ w'.cell? a = some (.string s) ∧ s.data.toList ≠ [] ∧ Below B w w' ∧ Bf B b l0 w' := by
  have H := Lib.hid h
  have HL := Lib.hid hlim
  have P1 := hd_enc ⟨t, ht⟩ f l
  have O16 := or16 ⟨phead t f l, phead_lt ht f l⟩
  have O32 := or32 ⟨phead t f l, phead_lt ht f l⟩
  have hp := phead_lt ht f l
  simp only at P1 O16 O32
  generalize phead t f l = ph at P1 O16 O32 hp ⊢
  obtain ⟨m16, h16⟩ : ∃ m, ph + 16 = m := ⟨_, rfl⟩
  obtain ⟨m32, h32⟩ : ∃ m, ph + 32 = m := ⟨_, rfl⟩
  rw [h16] at O16
  rw [h32] at O32
  try rw [h16]
  try rw [h32]
  have HM := Lib.hid (And.intro hp (And.intro h16 h32))
  clear h hlim hp h16 h32
  have k3 : ((t : Int) == 3) = false := beq_eq_false_iff_ne.2 (by omega)
  have k0 : ((t : Int) == 0) = true := beq_iff_eq.2 (by omega)
  subst hi
  have qn0 : (n == 0) = false := beq_eq_false_iff_ne.2 (hn0)
  have qin : ((0 : Int) == n) = false := beq_eq_false_iff_ne.2 (fun e => hn0 e.symm)
  have qn : (n != -1) = true := bne_iff_ne.2 hn
  clear ht0 hn0 hn
  cases f <;> cases l <;> (
    simp only [Bool.false_eq_true, if_false, if_true] at P1
    go_enter Tryd.func75, Tryd.ntmps75
    go_wp2_with (first
      | (go_at_call 95; refine (errNew_any _ _).mono ?_; rintro e_ w1 ⟨rfl, rfl⟩))
    go_ret
    refine ⟨⟨w.heap.size + 1, 0, none⟩, _, rfl, (blk_cell (two_new w _ _) 0).trans rfl, ?_, (below_alloc (below_alloc (Below.refl w.heap.size w) _) _).mono H.out.size, H.out.old (below_alloc (below_alloc (Below.refl w.heap.size w) _) _)⟩; simp)
end Go.Proofs.YtgdbeiadlgkedaaDoor

/- Contracts: a pane is written by EncodeValue. -/
set_option linter.unusedVariables false
set_option linter.unusedSimpArgs false
namespace Go.Proofs.YtgdbeiadlgkedaaDoor
open Go.RowKit Go.Proofs.YtgdbeiadlgkedaaDoorW.PrintWords Go.Proofs.YtgdbeiadlgkedaaDoorW.PrintLast Go.Proofs.YtgdbeiadlgkedaaDoorW.PrintMore
theorem encPane_ok (B b : Nat) (t : Nat) (ht : t < 4) (f l : Bool) (i n : Int) (hok : t = 0 → n = -1 ∨ (i = 0 ∧ n = 0)) (l0 : List UInt8) (w : World) (h : Bf B b l0 w) (hlim : l0.length + 100 ≤ 140737488355328) :
    Calls Tryd.prog 75 #[.agg #[.int .u8 t, .bool f, .bool l, .int .i64 i, .int .i64 n], bfI b] w fun e w' => e = .returned .nilIface ∧ Bf B b (l0 ++ pbytes t f l i n) w' ∧ Below B w w' := by
  unfold pbytes
  by_cases c1 : (i = 0 ∧ n = 0) ∨ t = 3
  · rw [if_pos c1]
    by_cases hi : i = 0
    · by_cases hn : n = 0
      · exact encPane_a1 B b t ht f l i n hi hn l0 w h hlim
      · exact encPane_a3 B b t ht f l i n (by omega) hi hn l0 w h hlim
    · exact encPane_a2 B b t ht f l i n (by omega) hi l0 w h hlim
  · rw [if_neg c1]
    by_cases c2 : i = n ∨ t = 0
    · rw [if_pos c2]
      by_cases t0 : t = 0
      · have hn : n = -1 := by have := hok t0; omega
        by_cases hi : i = 0
        · exact encPane_b3 B b t ht f l i n t0 hi hn l0 w h hlim
        · by_cases hi1 : i = -1
          · exact encPane_b4 B b t ht f l i n t0 hi1 hn l0 w h hlim
          · exact encPane_b2 B b t ht f l i n t0 hi hi1 hn l0 w h hlim
      · exact encPane_b1 B b t ht f l i n (by omega) t0 (by omega) (by omega) l0 w h hlim
    · rw [if_neg c2]
      by_cases hi : i = 0
      · exact encPane_c2 B b t ht f l i n (by omega) (by omega) hi (by omega) l0 w h hlim
      · exact encPane_c1 B b t ht f l i n (by omega) (by omega) hi (by omega) l0 w h hlim
theorem encPane_bad (B b : Nat) (f l : Bool) (i n : Int) (hin : i ≠ n) (hn : n ≠ -1) (l0 : List UInt8) (w : World) (h : Bf B b l0 w) (hlim : l0.length + 100 ≤ 140737488355328) :
    Calls Tryd.prog 75 #[.agg #[.int .u8 (0 : Nat), .bool f, .bool l, .int .i64 i, .int .i64 n], bfI b] w fun e w' => ∃ a s, e = .returned (errV a) ∧ w'.cell? a = some (.string s) ∧ s.data.toList ≠ [] ∧ Below B w w' ∧ Bf B b l0 w' := by
  by_cases hi : i = 0
  · exact encPane_d2 B b 0 (by decide) f l i n rfl hi (by omega) hn l0 w h hlim
  · exact encPane_d1 B b 0 (by decide) f l i n rfl hi hin hn l0 w h hlim
set_option maxHeartbeats 4000000 in
set_option maxRecDepth 100000 in
theorem pane_any (t : Nat) (f l : Bool) (i n : Int) (ht : t < 4) (w : World) :
    Calls Tryd.prog 76 #[.agg #[.int .i64 t, .bool f, .bool l, .int .i64 i, .int .i64 n]] w fun e w' => e = .returned (.agg #[.int .u8 t, .bool f, .bool l, .int .i64 i, .int .i64 n]) ∧ Below w.heap.size w w' := by
  have q1 : (t : Int) % 256 = (t : Int) := by omega
  go_enter Tryd.func76, Tryd.ntmps76
  go_wp2
  go_returns
  exact ⟨rfl, by repeat (first | exact Below.refl _ _ | apply below_alloc | apply below_drew | refine below_set ?_ (by simp) | (refine Below.setCell ?_ (by simp) _))⟩
set_option maxHeartbeats 4000000 in
set_option maxRecDepth 100000 in
theorem codPane_any (t : Int) (f l : Bool) (i n : Int) (w : World) :
    Calls Tryd.prog 29 #[.agg #[.int .i64 t, .bool f, .bool l, .int .i64 i, .int .i64 n]] w fun e w' => e = .returned (.agg #[.int .i64 t, .bool f, .bool l, .int .i64 i, .int .i64 n]) ∧ Below w.heap.size w w' := by
  go_enter Tryd.func29, Tryd.ntmps29
  go_wp2
  go_returns
  exact ⟨rfl, by repeat (first | exact Below.refl _ _ | apply below_alloc | apply below_drew | refine below_set ?_ (by simp) | (refine Below.setCell ?_ (by simp) _))⟩
end Go.Proofs.YtgdbeiadlgkedaaDoor

/- Contract: EncodeValue of a pane. -/
set_option linter.unusedVariables false
set_option linter.unusedSimpArgs false
namespace Go.Proofs.YtgdbeiadlgkedaaDoor
open Go.RowKit Go.Proofs.YtgdbeiadlgkedaaDoorW.PrintWords Go.Proofs.YtgdbeiadlgkedaaDoorW.PrintLast Go.Proofs.YtgdbeiadlgkedaaDoorW.PrintMore
theorem enc_below3 {w w1 w2 w3 : World} {o o2 : Obj} {k : Nat} (h0 : Below ((w.alloc o).alloc o2).heap.size ((w.alloc o).alloc o2) w1) (h : Below (w.heap.size + 1) w1 w2) (h3 : w3 = w2.drewN k) : Below w.heap.size w w3 := by
  subst h3
  have a : Below w.heap.size w w1 := (((Below.refl _ w).alloc (Nat.le_refl _) o).alloc (by simp) o2).trans (h0.mono (by simp; omega))
  have h1 := a.trans (h.mono (by omega))
  exact ⟨h1.os, h1.tape, h1.output, h1.size, h1.block⟩
theorem encPane_bad' (B b : Nat) (t : Nat) (t0 : t = 0) (f l : Bool) (i n : Int) (hin : i ≠ n) (hn : n ≠ -1) (l0 : List UInt8) (w : World) (h : Bf B b l0 w) (hlim : l0.length + 100 ≤ 140737488355328) :
    Calls Tryd.prog 75 #[.agg #[.int .u8 t, .bool f, .bool l, .int .i64 i, .int .i64 n], bfI b] w fun e w' => ∃ a s, e = .returned (errV a) ∧ w'.cell? a = some (.string s) ∧ s.data.toList ≠ [] ∧ Below B w w' ∧ Bf B b l0 w' := by
  subst t0
  exact encPane_bad B b f l i n hin hn l0 w h hlim

set_option maxHeartbeats 4000000 in
set_option maxRecDepth 100000 in
theorem encVal_6 (fl : Bool) (m u bb : Int) (tx : ByteArray) (t : Nat) (f l : Bool) (i n : Int) (ht : t < 4) (hok : t = 0 → n = -1 ∨ (i = 0 ∧ n = 0)) (w : World) :
    Calls Tryd.prog 27 #[.agg #[.int .i64 6, .bool fl, .int .i64 m, .int .u64 u, .int .u64 bb, .string tx, .int .i64 t, .bool f, .bool l, .int .i64 i, .int .i64 n]] w fun e w' => e = .returned (.tuple #[.string ⟨(pbytes t f l i n).toArray⟩, .string ⟨#[]⟩]) ∧ Below w.heap.size w w' := by
  have hF : Bf (w.heap.size + 1) (w.heap.size + 1) [] ((w.alloc (.cells #[.int .i64 6, .bool fl, .int .i64 m, .int .u64 u, .int .u64 bb, .string tx, .int .i64 t, .bool f, .bool l, .int .i64 i, .int .i64 n] 26)).alloc (.cells #[.slice none 0 0, .int .i64 0, .int .i8 0] 129)) := by
    have := fresh_Bf (w.alloc (.cells #[.int .i64 6, .bool fl, .int .i64 m, .int .u64 u, .int .u64 bb, .string tx, .int .i64 t, .bool f, .bool l, .int .i64 i, .int .i64 n] 26)); rwa [World.size_alloc] at this
  have HF := Lib.hid hF
  have HT := Lib.hid ht
  have HO := Lib.hid hok
  clear ht hok
  clear hF
  go_enter Tryd.func27, Tryd.ntmps27
  go_wp2_with (first
    | (go_at_call 76; (with_reducible refine (pane_any t f l i n HT.out _).mono ?_); rintro e_ w1 ⟨rfl, hb⟩; have HB := Lib.hid hb; have HF1 := Lib.hid (HF.out.old hb); clear hb)
    | (go_at_call 75; (with_reducible refine (encPane_ok _ _ t HT.out f l i n HO.out [] w1 HF1.out (by decide)).mono ?_); rintro e_ w2 ⟨rfl, h1, h2⟩; have H1 := Lib.hid h1; have H2 := Lib.hid h2; clear h1 h2)
    | (go_at_call 84; refine (string_any _ _ _ _ H1.out).mono ?_; rintro e_ w3 ⟨rfl, q2, hq⟩; have HQ := Lib.hid (enc_below3 HB.out H2.out hq); clear hq)
    | (go_at_call 63; refine (word_nil _).mono ?_; rintro e_ w4 ⟨rfl, rfl⟩))
  all_goals (go_ret2; exact ⟨rfl, HQ.out⟩)

set_option maxHeartbeats 4000000 in
set_option maxRecDepth 100000 in
theorem encVal_6bad (fl : Bool) (m u bb : Int) (tx : ByteArray) (t : Nat) (f l : Bool) (i n : Int) (ht0 : t = 0) (hin : i ≠ n) (hn : n ≠ -1) (w : World) :
    Calls Tryd.prog 27 #[.agg #[.int .i64 6, .bool fl, .int .i64 m, .int .u64 u, .int .u64 bb, .string tx, .int .i64 t, .bool f, .bool l, .int .i64 i, .int .i64 n]] w fun e w' => ∃ s, e = .returned (.tuple #[.string ⟨#[]⟩, .string s]) ∧ s.data.toList ≠ [] ∧ Below w.heap.size w w' := by
  have hF : Bf (w.heap.size + 1) (w.heap.size + 1) [] ((w.alloc (.cells #[.int .i64 6, .bool fl, .int .i64 m, .int .u64 u, .int .u64 bb, .string tx, .int .i64 t, .bool f, .bool l, .int .i64 i, .int .i64 n] 26)).alloc (.cells #[.slice none 0 0, .int .i64 0, .int .i8 0] 129)) := by
    have := fresh_Bf (w.alloc (.cells #[.int .i64 6, .bool fl, .int .i64 m, .int .u64 u, .int .u64 bb, .string tx, .int .i64 t, .bool f, .bool l, .int .i64 i, .int .i64 n] 26)); rwa [World.size_alloc] at this
  have HF := Lib.hid hF
  have HT := Lib.hid (show t < 4 by omega)
  have HT0 := Lib.hid ht0
  clear ht0
  have HI := Lib.hid hin
  have HN := Lib.hid hn
  clear hin hn
  clear hF
  go_enter Tryd.func27, Tryd.ntmps27
  go_wp2_with (first
    | (go_at_call 76; (with_reducible refine (pane_any t f l i n HT.out _).mono ?_); rintro e_ w1 ⟨rfl, hb⟩; have HB := Lib.hid hb; have HF1 := Lib.hid (HF.out.old hb); clear hb)
    | (go_at_call 75; (with_reducible refine (encPane_bad' _ _ t HT0.out f l i n HI.out HN.out [] w1 HF1.out (by decide)).mono ?_); rintro e_ w2 ⟨ea, es, rfl, h0, hne, h2, h1⟩; have H1 := Lib.hid h1; have H2 := Lib.hid h2; have H0 := Lib.hid h0; have HE := Lib.hid hne; clear h1 h2 h0 hne)
    | (go_at_call 84; refine (string_any _ _ _ _ H1.out).mono ?_; rintro e_ w3 ⟨rfl, q2, rfl⟩; have HQ := Lib.hid (enc_below3 HB.out H2.out (rfl : w2.drewN q2 = w2.drewN q2)))
    | (go_at_call 63; refine (word_err ea es _ (by simpa using H0.out)).mono ?_; rintro e_ w4 ⟨rfl, rfl⟩))
  all_goals (go_ret2; exact ⟨es, rfl, HE.out, HQ.out⟩)
end Go.Proofs.YtgdbeiadlgkedaaDoor

/- Contracts: spec.CodEncoded by kinds. -/
set_option linter.unusedVariables false
set_option linter.unusedSimpArgs false
namespace Go.Proofs.YtgdbeiadlgkedaaDoor
open Go.RowKit Go.Proofs.YtgdbeiadlgkedaaDoorW.PrintWords Go.Proofs.YtgdbeiadlgkedaaDoorW.PrintLast Go.Proofs.YtgdbeiadlgkedaaDoorW.PrintMore
/-- A block of the call's own with a text in its fifth cell. -/
def SB (t : ByteArray) (w : World) (o : Obj) (w' : World) : Prop := w'.cell? ⟨w.heap.size, 5, none⟩ = some (.string t) ∧ w'.heap[w.heap.size]? = some o ∧ Below w.heap.size w w'
theorem SB.start (t : ByteArray) (w : World) (cs : Array Value) (h : cs[5]? = some (.string t)) : SB t w (.cells cs 37) (w.alloc (.cells cs 37)).drew :=
  ⟨(blk_cell (heap_alloc_new w (.cells cs 37)) 5).trans h, heap_alloc_new w (.cells cs 37), below_drew (below_alloc (Below.refl _ w) _)⟩
theorem SB.step {t : ByteArray} {w x y : World} {o : Obj} (h : SB t w o x) (hb : Below x.heap.size x y) : SB t w o y := by
  obtain ⟨h1, h2, h3⟩ := h
  have hl := blk_lt h2
  exact ⟨(hb.cell (p := ⟨w.heap.size, 5, none⟩) hl).trans h1, (hb.block _ hl).trans h2, below_then h3 h3.size hb⟩
theorem SB.both {t : ByteArray} {w x : World} {o : Obj} (h : SB t w o x) : x.cell? ⟨w.heap.size, 5, none⟩ = some (.string t) ∧ Aside0 (SB t w o x) := ⟨h.1, ⟨h⟩⟩
theorem SB.both2 {t : ByteArray} {w x y : World} {o : Obj} (h : x.cell? ⟨w.heap.size, 5, none⟩ = some (.string t) ∧ Aside0 (SB t w o x)) (hb : Below x.heap.size x y) : y.cell? ⟨w.heap.size, 5, none⟩ = some (.string t) ∧ Aside0 (SB t w o y) := (SB.step h.2.out hb).both
theorem str_ext0 {s : ByteArray} {l : List UInt8} (h : s.data.toList = l) : s = ⟨l.toArray⟩ := by
  cases s with
  | mk d => simp only at h; subst h; simp
theorem add_strE (s t : ByteArray) (h1 : s.size ≤ 10) (h2 : t.size ≤ 1000000) : ∀ W : World, (Op.stringOp .add s t).run Tryd.prog W = .ok (.string (s ++ t)) W := by
  intro W
  simp [Op.stringOp]
  omega
theorem be1 (x : Nat) : Lib.beBytes 1 x = [(x % 256).toUInt8] := rfl
theorem spec_le {w w1 : World} {o : Obj} (h : Below (w.alloc o).heap.size (w.alloc o) w1) : Below w.heap.size w w1 := below_then (below_alloc (Below.refl w.heap.size w) o) (by simp) h
/-- An int64 as a uint64 with the sign's bit turned. -/
theorem xor_sign (n : Int) (h0 : -9223372036854775808 ≤ n) (h1 : n ≤ 9223372036854775807) : Go.bits .xor .u64 (u64of n : Int) 9223372036854775808 = ((n + 9223372036854775808).toNat : Int) := by
  have hl := u64of_lt n
  have h := bits_xor_u64_nat (u64of n) 9223372036854775808 hl (by decide)
  have e : ((9223372036854775808 : Nat) : Int) = 9223372036854775808 := rfl
  rw [e] at h
  rw [h]
  have hm : (u64of n ^^^ 9223372036854775808) % 2 ^ 63 = u64of n % 2 ^ 63 := by rw [Nat.xor_mod_two_pow]; simp
  have hd : (u64of n ^^^ 9223372036854775808) / 2 ^ 63 = (u64of n / 2 ^ 63) ^^^ 1 := by rw [Nat.xor_div_two_pow]
  have e2 : (2 : Nat) ^ 63 = 9223372036854775808 := by decide
  rw [e2] at hm hd
  have hx : u64of n = (n % 18446744073709551616).toNat := rfl
  rcases (show u64of n / 9223372036854775808 = 0 ∨ u64of n / 9223372036854775808 = 1 by omega) with hq | hq
  · rw [hq] at hd
    have : (0 : Nat) ^^^ 1 = 1 := by decide
    rw [this] at hd
    omega
  · rw [hq] at hd
    have : (1 : Nat) ^^^ 1 = 0 := by decide
    rw [this] at hd
    omega
theorem varint_any (v : Nat) (w : World) (hv : v < 18446744073709551616) : Calls Tryd.prog 32 #[.int .u64 v] w fun e w' => e = .returned (.string ⟨(Lib.uvarint v).toArray⟩) ∧ Below w.heap.size w w' := by
  obtain ⟨k, hk⟩ := varint_some v hv
  exact PFnPaneEarly.spec_CodVarint.calls k _ _ w hk
theorem paned_any (t : Nat) (ht : t < 4) (f l : Bool) (i n : Int) (w : World) : Calls Tryd.prog 28 #[.agg #[.int .i64 t, .bool f, .bool l, .int .i64 i, .int .i64 n]] w fun e w' => e = .returned (.string ⟨(pbytes t f l i n).toArray⟩) ∧ Below w.heap.size w w' := by
  obtain ⟨k, hk⟩ := paned_some t ht f l i n
  exact PFnPaneEarly.spec_CodPaned.calls k _ _ _ _ _ _ w hk
theorem wrapU (n : Int) : IntKind.u64.wrap n = (u64of n : Int) := by unfold u64of; simp [IntKind.wrap, IntKind.bits, IntKind.signed]; omega
theorem modU (n : Int) : n % 18446744073709551616 = (u64of n : Int) := by unfold u64of; omega
set_option maxHeartbeats 4000000 in
set_option maxRecDepth 100000 in
theorem specEnc_0 (fl : Bool) (n u b : Int) (t : ByteArray) (pt : Int) (pf pl : Bool) (pi pn : Int) (w : World) :
    Calls Tryd.prog 24 #[.agg #[.int .i64 0, .bool fl, .int .i64 n, .int .u64 u, .int .u64 b, .string t, .int .i64 pt, .bool pf, .bool pl, .int .i64 pi, .int .i64 pn]] w fun e w' => e = .returned (.string ⟨([if fl then 1 else 0] : List UInt8).toArray⟩) ∧ Below w.heap.size w w' := by
  cases fl
  all_goals
    go_enter Tryd.func24, Tryd.ntmps24
    go_wp2
    go_ret
    exact ⟨rfl, below_alloc (Below.refl w.heap.size w) _⟩
set_option maxHeartbeats 4000000 in
set_option maxRecDepth 100000 in
theorem specEnc_1 (fl : Bool) (n u b : Int) (t : ByteArray) (pt : Int) (pf pl : Bool) (pi pn : Int) (w : World) :
    Calls Tryd.prog 24 #[.agg #[.int .i64 1, .bool fl, .int .i64 n, .int .u64 u, .int .u64 b, .string t, .int .i64 pt, .bool pf, .bool pl, .int .i64 pi, .int .i64 pn]] w fun e w' => e = .returned (.string ⟨([(n % 256).toNat.toUInt8]).toArray⟩) ∧ Below w.heap.size w w' := by
  obtain ⟨U, hU⟩ : ∃ U, U = u64of n := ⟨_, rfl⟩
  have hw := wrapU n
  have hm := modU n
  rw [← hU] at hw hm
  have hr : Lib.beBytes 1 (U % 256) = [(n % 256).toNat.toUInt8] := by rw [be1, hU]; congr 2; unfold u64of; omega
  have HC := Lib.hid (codBig1_any U (w.alloc (.cells #[.int .i64 1, .bool fl, .int .i64 n, .int .u64 u, .int .u64 b, .string t, .int .i64 pt, .bool pf, .bool pl, .int .i64 pi, .int .i64 pn] 37)))
  rw [hr] at HC
  clear hr hU
  go_enter Tryd.func24, Tryd.ntmps24
  go_wp2_with (go_at_call 65; go_loud (refine HC.out.mono ?_; rintro e_ w1 ⟨rfl, hb⟩; have HB := Lib.hid (spec_le hb); clear hb))
  go_ret
  exact ⟨rfl, HB.out⟩
set_option maxHeartbeats 4000000 in
set_option maxRecDepth 100000 in
theorem specEnc_3 (fl : Bool) (n u b : Int) (t : ByteArray) (pt : Int) (pf pl : Bool) (pi pn : Int) (h0 : 0 ≤ b) (w : World) :
    Calls Tryd.prog 24 #[.agg #[.int .i64 3, .bool fl, .int .i64 n, .int .u64 u, .int .u64 b, .string t, .int .i64 pt, .bool pf, .bool pl, .int .i64 pi, .int .i64 pn]] w fun e w' => e = .returned (.string ⟨(Lib.beBytes 8 b.toNat).toArray⟩) ∧ Below w.heap.size w w' := by
  obtain ⟨v, rfl⟩ := Int.eq_ofNat_of_zero_le h0
  rw [show ((v : Nat) : Int).toNat = v by omega]
  have HC := Lib.hid (codBig8_any v (w.alloc (.cells #[.int .i64 3, .bool fl, .int .i64 n, .int .u64 u, .int .u64 (v : Int), .string t, .int .i64 pt, .bool pf, .bool pl, .int .i64 pi, .int .i64 pn] 37)))
  clear h0
  go_enter Tryd.func24, Tryd.ntmps24
  go_wp2_with (go_at_call 65; go_loud (refine HC.out.mono ?_; rintro e_ w1 ⟨rfl, hb⟩; have HB := Lib.hid (spec_le hb); clear hb))
  go_ret
  exact ⟨rfl, HB.out⟩
set_option maxHeartbeats 4000000 in
set_option maxRecDepth 100000 in
theorem specEnc_7 (fl : Bool) (n u b : Int) (t : ByteArray) (pt : Int) (pf pl : Bool) (pi pn : Int) (h0 : 0 ≤ b) (w : World) :
    Calls Tryd.prog 24 #[.agg #[.int .i64 7, .bool fl, .int .i64 n, .int .u64 u, .int .u64 b, .string t, .int .i64 pt, .bool pf, .bool pl, .int .i64 pi, .int .i64 pn]] w fun e w' => e = .returned (.string ⟨(Lib.beBytes 4 (b % 4294967296).toNat).toArray⟩) ∧ Below w.heap.size w w' := by
  obtain ⟨v, rfl⟩ := Int.eq_ofNat_of_zero_le h0
  rw [show (((v : Nat) : Int) % 4294967296).toNat = v % 4294967296 by omega]
  have HC := Lib.hid (codBig4_any v (w.alloc (.cells #[.int .i64 7, .bool fl, .int .i64 n, .int .u64 u, .int .u64 (v : Int), .string t, .int .i64 pt, .bool pf, .bool pl, .int .i64 pi, .int .i64 pn] 37)))
  clear h0
  go_enter Tryd.func24, Tryd.ntmps24
  go_wp2_with (go_at_call 65; go_loud (refine HC.out.mono ?_; rintro e_ w1 ⟨rfl, hb⟩; have HB := Lib.hid (spec_le hb); clear hb))
  go_ret
  exact ⟨rfl, HB.out⟩
set_option maxHeartbeats 4000000 in
set_option maxRecDepth 100000 in
theorem specEnc_9 (fl : Bool) (n u b : Int) (t : ByteArray) (pt : Int) (pf pl : Bool) (pi pn : Int) (h0 : 0 ≤ u) (w : World) :
    Calls Tryd.prog 24 #[.agg #[.int .i64 9, .bool fl, .int .i64 n, .int .u64 u, .int .u64 b, .string t, .int .i64 pt, .bool pf, .bool pl, .int .i64 pi, .int .i64 pn]] w fun e w' => e = .returned (.string ⟨(Lib.beBytes 4 (u % 4294967296).toNat).toArray⟩) ∧ Below w.heap.size w w' := by
  obtain ⟨v, rfl⟩ := Int.eq_ofNat_of_zero_le h0
  rw [show (((v : Nat) : Int) % 4294967296).toNat = v % 4294967296 by omega]
  have HC := Lib.hid (codBig4_any v (w.alloc (.cells #[.int .i64 9, .bool fl, .int .i64 n, .int .u64 (v : Int), .int .u64 b, .string t, .int .i64 pt, .bool pf, .bool pl, .int .i64 pi, .int .i64 pn] 37)))
  clear h0
  go_enter Tryd.func24, Tryd.ntmps24
  go_wp2_with (go_at_call 65; go_loud (refine HC.out.mono ?_; rintro e_ w1 ⟨rfl, hb⟩; have HB := Lib.hid (spec_le hb); clear hb))
  go_ret
  exact ⟨rfl, HB.out⟩
set_option maxHeartbeats 4000000 in
set_option maxRecDepth 100000 in
theorem specEnc_10 (fl : Bool) (n u b : Int) (t : ByteArray) (pt : Int) (pf pl : Bool) (pi pn : Int) (h0 : 0 ≤ u) (w : World) :
    Calls Tryd.prog 24 #[.agg #[.int .i64 10, .bool fl, .int .i64 n, .int .u64 u, .int .u64 b, .string t, .int .i64 pt, .bool pf, .bool pl, .int .i64 pi, .int .i64 pn]] w fun e w' => e = .returned (.string ⟨(Lib.beBytes 8 u.toNat).toArray⟩) ∧ Below w.heap.size w w' := by
  obtain ⟨v, rfl⟩ := Int.eq_ofNat_of_zero_le h0
  rw [show ((v : Nat) : Int).toNat = v by omega]
  have HC := Lib.hid (codBig8_any v (w.alloc (.cells #[.int .i64 10, .bool fl, .int .i64 n, .int .u64 (v : Int), .int .u64 b, .string t, .int .i64 pt, .bool pf, .bool pl, .int .i64 pi, .int .i64 pn] 37)))
  clear h0
  go_enter Tryd.func24, Tryd.ntmps24
  go_wp2_with (go_at_call 65; go_loud (refine HC.out.mono ?_; rintro e_ w1 ⟨rfl, hb⟩; have HB := Lib.hid (spec_le hb); clear hb))
  go_ret
  exact ⟨rfl, HB.out⟩
set_option maxHeartbeats 4000000 in
set_option maxRecDepth 100000 in
theorem specEnc_12 (fl : Bool) (n u b : Int) (t : ByteArray) (pt : Int) (pf pl : Bool) (pi pn : Int) (h0 : 0 ≤ u) (h1 : u < 18446744073709551616) (w : World) :
    Calls Tryd.prog 24 #[.agg #[.int .i64 12, .bool fl, .int .i64 n, .int .u64 u, .int .u64 b, .string t, .int .i64 pt, .bool pf, .bool pl, .int .i64 pi, .int .i64 pn]] w fun e w' => e = .returned (.string ⟨(Lib.uvarint u.toNat).toArray⟩) ∧ Below w.heap.size w w' := by
  obtain ⟨v, rfl⟩ := Int.eq_ofNat_of_zero_le h0
  rw [show ((v : Nat) : Int).toNat = v by omega]
  have HC := Lib.hid (varint_any v (w.alloc (.cells #[.int .i64 12, .bool fl, .int .i64 n, .int .u64 (v : Int), .int .u64 b, .string t, .int .i64 pt, .bool pf, .bool pl, .int .i64 pi, .int .i64 pn] 37)) (by omega))
  clear h0 h1
  go_enter Tryd.func24, Tryd.ntmps24
  go_wp2_with (go_at_call 32; go_loud (refine HC.out.mono ?_; rintro e_ w1 ⟨rfl, hb⟩; have HB := Lib.hid (spec_le hb); clear hb))
  go_ret
  exact ⟨rfl, HB.out⟩
set_option maxHeartbeats 4000000 in
set_option maxRecDepth 100000 in
theorem specEnc_4 (fl : Bool) (n u b : Int) (t : ByteArray) (pt : Int) (pf pl : Bool) (pi pn : Int) (h0 : -9223372036854775808 ≤ n) (h1 : n ≤ 9223372036854775807) (w : World) :
    Calls Tryd.prog 24 #[.agg #[.int .i64 4, .bool fl, .int .i64 n, .int .u64 u, .int .u64 b, .string t, .int .i64 pt, .bool pf, .bool pl, .int .i64 pi, .int .i64 pn]] w fun e w' => e = .returned (.string ⟨(Lib.beBytes 8 (n + 9223372036854775808).toNat).toArray⟩) ∧ Below w.heap.size w w' := by
  obtain ⟨U, hU⟩ : ∃ U, U = u64of n := ⟨_, rfl⟩
  have hw := wrapU n
  have hm := modU n
  rw [← hU] at hw hm
  obtain ⟨V, hV⟩ : ∃ V, V = (n + 9223372036854775808).toNat := ⟨_, rfl⟩
  have hx := xor_sign n h0 h1
  rw [← hU, ← hV] at hx
  rw [← hV]
  clear h0 h1 hU hV
  have HC := Lib.hid (codBig8_any V (w.alloc (.cells #[.int .i64 4, .bool fl, .int .i64 n, .int .u64 u, .int .u64 b, .string t, .int .i64 pt, .bool pf, .bool pl, .int .i64 pi, .int .i64 pn] 37)))
  go_enter Tryd.func24, Tryd.ntmps24
  go_wp2_with (go_at_call 65; go_loud (refine HC.out.mono ?_; rintro e_ w1 ⟨rfl, hb⟩; have HB := Lib.hid (spec_le hb); clear hb))
  go_ret
  exact ⟨rfl, HB.out⟩
set_option maxHeartbeats 4000000 in
set_option maxRecDepth 100000 in
theorem specEnc_5 (fl : Bool) (n u b : Int) (t : ByteArray) (pt : Int) (pf pl : Bool) (pi pn : Int) (w : World) :
    Calls Tryd.prog 24 #[.agg #[.int .i64 5, .bool fl, .int .i64 n, .int .u64 u, .int .u64 b, .string t, .int .i64 pt, .bool pf, .bool pl, .int .i64 pi, .int .i64 pn]] w fun e w' => e = .returned (.string ⟨(Lib.beBytes 4 (wrap32 n % 4294967296).toNat).toArray⟩) ∧ Below w.heap.size w w' := by
  obtain ⟨U, hU⟩ : ∃ U, U = u64of n := ⟨_, rfl⟩
  have hw := wrapU n
  have hm := modU n
  rw [← hU] at hw hm
  have hr : U % 4294967296 = (wrap32 n % 4294967296).toNat := by rw [hU]; unfold u64of wrap32; omega
  have HC := Lib.hid (codBig4_any U (w.alloc (.cells #[.int .i64 5, .bool fl, .int .i64 n, .int .u64 u, .int .u64 b, .string t, .int .i64 pt, .bool pf, .bool pl, .int .i64 pi, .int .i64 pn] 37)))
  rw [hr] at HC
  clear hr hU
  go_enter Tryd.func24, Tryd.ntmps24
  go_wp2_with (go_at_call 65; go_loud (refine HC.out.mono ?_; rintro e_ w1 ⟨rfl, hb⟩; have HB := Lib.hid (spec_le hb); clear hb))
  go_ret
  exact ⟨rfl, HB.out⟩
set_option maxHeartbeats 4000000 in
set_option maxRecDepth 100000 in
theorem specEnc_11 (fl : Bool) (n u b : Int) (t : ByteArray) (pt : Int) (pf pl : Bool) (pi pn : Int) (w : World) :
    Calls Tryd.prog 24 #[.agg #[.int .i64 11, .bool fl, .int .i64 n, .int .u64 u, .int .u64 b, .string t, .int .i64 pt, .bool pf, .bool pl, .int .i64 pi, .int .i64 pn]] w fun e w' => e = .returned (.string ⟨(Lib.uvarint (u64of n)).toArray⟩) ∧ Below w.heap.size w w' := by
  obtain ⟨U, hU⟩ : ∃ U, U = u64of n := ⟨_, rfl⟩
  have hw := wrapU n
  have hm := modU n
  rw [← hU] at hw hm
  have hl := u64of_lt n
  rw [← hU] at hl ⊢
  have HC := Lib.hid (varint_any U (w.alloc (.cells #[.int .i64 11, .bool fl, .int .i64 n, .int .u64 u, .int .u64 b, .string t, .int .i64 pt, .bool pf, .bool pl, .int .i64 pi, .int .i64 pn] 37)) hl)
  clear hl hU
  go_enter Tryd.func24, Tryd.ntmps24
  go_wp2_with (go_at_call 32; go_loud (refine HC.out.mono ?_; rintro e_ w1 ⟨rfl, hb⟩; have HB := Lib.hid (spec_le hb); clear hb))
  go_ret
  exact ⟨rfl, HB.out⟩
set_option maxHeartbeats 4000000 in
set_option maxRecDepth 100000 in
theorem specEnc_6 (fl : Bool) (n u b : Int) (t : ByteArray) (pt : Nat) (pf pl : Bool) (pi pn : Int) (ht : pt < 4) (w : World) :
    Calls Tryd.prog 24 #[.agg #[.int .i64 6, .bool fl, .int .i64 n, .int .u64 u, .int .u64 b, .string t, .int .i64 (pt : Int), .bool pf, .bool pl, .int .i64 pi, .int .i64 pn]] w fun e w' => e = .returned (.string ⟨(pbytes pt pf pl pi pn).toArray⟩) ∧ Below w.heap.size w w' := by
  have HC := Lib.hid (paned_any pt ht pf pl pi pn (w.alloc (.cells #[.int .i64 6, .bool fl, .int .i64 n, .int .u64 u, .int .u64 b, .string t, .int .i64 (pt : Int), .bool pf, .bool pl, .int .i64 pi, .int .i64 pn] 37)))
  clear ht
  go_enter Tryd.func24, Tryd.ntmps24
  go_wp2_with (go_at_call 28; go_loud (refine HC.out.mono ?_; rintro e_ w1 ⟨rfl, hb⟩; have HB := Lib.hid (spec_le hb); clear hb))
  go_ret
  exact ⟨rfl, HB.out⟩
set_option maxHeartbeats 4000000 in
set_option maxRecDepth 100000 in
theorem specEnc_2 (fl : Bool) (n u b : Int) (t : ByteArray) (pt : Int) (pf pl : Bool) (pi pn : Int) (ht : t.size ≤ 1000000) (w : World) :
    Calls Tryd.prog 24 #[.agg #[.int .i64 2, .bool fl, .int .i64 n, .int .u64 u, .int .u64 b, .string t, .int .i64 pt, .bool pf, .bool pl, .int .i64 pi, .int .i64 pn]] w fun e w' => e = .returned (.string ⟨(Lib.uvarint t.size ++ t.data.toList).toArray⟩) ∧ Below w.heap.size w w' := by
  have hu : u64of (t.size : Int) = t.size := u64of_nat _ (by omega)
  obtain ⟨m, hm⟩ : ∃ m, t.size = m := ⟨_, rfl⟩
  have hm0 : (m : Int) % 18446744073709551616 = (m : Int) := by omega
  have hm1 : IntKind.u64.wrap (m : Int) = (m : Int) := by rw [wrapU, ← hm, hu]
  obtain ⟨r, hr⟩ : ∃ r : ByteArray, r = ⟨(Lib.uvarint m).toArray⟩ := ⟨_, rfl⟩
  have hrs : r.size ≤ 10 := by rw [hr]; have := Lib.uvarint_length64 (x := m) (by omega); simpa [ByteArray.size] using this
  have hrt : (⟨(Lib.uvarint t.size ++ t.data.toList).toArray⟩ : ByteArray) = r ++ t := by
    rw [hr, hm]; apply Eq.symm; apply str_ext0; rw [ByteArray.data_append]; simp
  rw [hrt]
  have HC := Lib.hid (fun W => varint_any m W (by omega))
  rw [← hr] at HC
  have q1 : (t.size : Int) = (m : Int) := by omega
  have hadd := add_strE r t hrs ht
  clear hu hr hrs hrt ht hm
  go_enter Tryd.func24, Tryd.ntmps24
  go_wp2
  have K0 := SB.both (SB.start t w #[.int .i64 2, .bool fl, .int .i64 n, .int .u64 u, .int .u64 b, .string t, .int .i64 pt, .bool pf, .bool pl, .int .i64 pi, .int .i64 pn] rfl)
  go_region_held3 (fun w' => w'.cell? ⟨w.heap.size, 5, none⟩ = some (.string t) ∧ Aside0 (SB t w (.cells #[.int .i64 2, .bool fl, .int .i64 n, .int .u64 u, .int .u64 b, .string t, .int .i64 pt, .bool pf, .bool pl, .int .i64 pi, .int .i64 pn] 37) w')) (assumption) ((go_at_call 32; (with_reducible refine (HC.out _).mono ?_); rintro e_ w1 ⟨rfl, hb⟩; have K1 : w1.cell? ⟨w.heap.size, 5, none⟩ = some (.string t) ∧ Aside0 (SB t w (.cells #[.int .i64 2, .bool fl, .int .i64 n, .int .u64 u, .int .u64 b, .string t, .int .i64 pt, .bool pf, .bool pl, .int .i64 pi, .int .i64 pn] 37) w1) := SB.both2 (by assumption) hb))
  all_goals
    go_wp2
    go_ret
    exact ⟨rfl, K1.2.out.2.2⟩
set_option maxHeartbeats 4000000 in
set_option maxRecDepth 100000 in
theorem specEnc_8 (fl : Bool) (n u b : Int) (t : ByteArray) (pt : Int) (pf pl : Bool) (pi pn : Int) (ht : t.size ≤ 1000000) (w : World) :
    Calls Tryd.prog 24 #[.agg #[.int .i64 8, .bool fl, .int .i64 n, .int .u64 u, .int .u64 b, .string t, .int .i64 pt, .bool pf, .bool pl, .int .i64 pi, .int .i64 pn]] w fun e w' => e = .returned (.string ⟨(Lib.uvarint t.size ++ t.data.toList).toArray⟩) ∧ Below w.heap.size w w' := by
  have hu : u64of (t.size : Int) = t.size := u64of_nat _ (by omega)
  obtain ⟨m, hm⟩ : ∃ m, t.size = m := ⟨_, rfl⟩
  have hm0 : (m : Int) % 18446744073709551616 = (m : Int) := by omega
  have hm1 : IntKind.u64.wrap (m : Int) = (m : Int) := by rw [wrapU, ← hm, hu]
  obtain ⟨r, hr⟩ : ∃ r : ByteArray, r = ⟨(Lib.uvarint m).toArray⟩ := ⟨_, rfl⟩
  have hrs : r.size ≤ 10 := by rw [hr]; have := Lib.uvarint_length64 (x := m) (by omega); simpa [ByteArray.size] using this
  have hrt : (⟨(Lib.uvarint t.size ++ t.data.toList).toArray⟩ : ByteArray) = r ++ t := by
    rw [hr, hm]; apply Eq.symm; apply str_ext0; rw [ByteArray.data_append]; simp
  rw [hrt]
  have HC := Lib.hid (fun W => varint_any m W (by omega))
  rw [← hr] at HC
  have q1 : (t.size : Int) = (m : Int) := by omega
  have hadd := add_strE r t hrs ht
  clear hu hr hrs hrt ht hm
  go_enter Tryd.func24, Tryd.ntmps24
  go_wp2
  have K0 := SB.both (SB.start t w #[.int .i64 8, .bool fl, .int .i64 n, .int .u64 u, .int .u64 b, .string t, .int .i64 pt, .bool pf, .bool pl, .int .i64 pi, .int .i64 pn] rfl)
  go_region_held3 (fun w' => w'.cell? ⟨w.heap.size, 5, none⟩ = some (.string t) ∧ Aside0 (SB t w (.cells #[.int .i64 8, .bool fl, .int .i64 n, .int .u64 u, .int .u64 b, .string t, .int .i64 pt, .bool pf, .bool pl, .int .i64 pi, .int .i64 pn] 37) w')) (assumption) ((go_at_call 32; (with_reducible refine (HC.out _).mono ?_); rintro e_ w1 ⟨rfl, hb⟩; have K1 : w1.cell? ⟨w.heap.size, 5, none⟩ = some (.string t) ∧ Aside0 (SB t w (.cells #[.int .i64 8, .bool fl, .int .i64 n, .int .u64 u, .int .u64 b, .string t, .int .i64 pt, .bool pf, .bool pl, .int .i64 pi, .int .i64 pn] 37) w1) := SB.both2 (by assumption) hb))
  all_goals
    go_wp2
    go_ret
    exact ⟨rfl, K1.2.out.2.2⟩
end Go.Proofs.YtgdbeiadlgkedaaDoor

/- The law of values that are written. -/
set_option linter.unusedVariables false
set_option linter.unusedSimpArgs false
namespace Go.Proofs.YtgdbeiadlgkedaaDoor
open Go.RowKit PFnEncode Go.Proofs.YtgdbeiadlgkedaaDoorW.PrintWords Go.Proofs.YtgdbeiadlgkedaaDoorW.PrintLast Go.Proofs.YtgdbeiadlgkedaaDoorW.PrintMore
theorem cells11 {w : World} {k T : Nat} {v0 v1 v2 v3 v4 v5 v6 v7 v8 v9 v10 : Value} (h : w.heap[k]? = some (.cells #[v0, v1, v2, v3, v4, v5, v6, v7, v8, v9, v10] T (0, 0))) : w.cell? ⟨k, 0, none⟩ = some v0 ∧ w.cell? ⟨k, 1, none⟩ = some v1 ∧ w.cell? ⟨k, 2, none⟩ = some v2 ∧ w.cell? ⟨k, 3, none⟩ = some v3 ∧ w.cell? ⟨k, 4, none⟩ = some v4 ∧ w.cell? ⟨k, 5, none⟩ = some v5 ∧ w.cell? ⟨k, 6, none⟩ = some v6 ∧ w.cell? ⟨k, 7, none⟩ = some v7 ∧ w.cell? ⟨k, 8, none⟩ = some v8 ∧ w.cell? ⟨k, 9, none⟩ = some v9 ∧ w.cell? ⟨k, 10, none⟩ = some v10 :=
  ⟨(blk_cell h 0).trans rfl, (blk_cell h 1).trans rfl, (blk_cell h 2).trans rfl, (blk_cell h 3).trans rfl, (blk_cell h 4).trans rfl, (blk_cell h 5).trans rfl, (blk_cell h 6).trans rfl, (blk_cell h 7).trans rfl, (blk_cell h 8).trans rfl, (blk_cell h 9).trans rfl, (blk_cell h 10).trans rfl⟩
theorem dsplit {P : Prop} [Decidable P] {o : Option Bool} (h : o = some (decide P)) : (o = some true ∧ P) ∨ o = some false := by
  by_cases hp : P
  · exact .inl ⟨by rw [h, decide_eq_true hp], hp⟩
  · exact .inr (by rw [h, decide_eq_false hp])
theorem codOf_eq (a0 : Int) (fl : Bool) (n u b : Int) (t : ByteArray) (pt : Int) (pf pl : Bool) (pi pn : Int) : laws_codOf.f a0 fl n u b t pt pf pl pi pn = some (a0, fl, n, u, b, t, pt, pf, pl, pi, pn) := rfl
set_option maxHeartbeats 4000000 in
set_option maxRecDepth 100000 in
theorem encode_big (a0 : Int) (fl : Bool) (n u b : Int) (t : ByteArray) (pt : Int) (pf pl : Bool) (pi pn : Int) (w : World) (h : 2147483647 < t.size) :
    Calls Tryd.prog 6 #[.agg #[.int .i64 a0, .bool fl, .int .i64 n, .int .u64 u, .int .u64 b, .string t, .int .i64 pt, .bool pf, .bool pl, .int .i64 pi, .int .i64 pn]] w fun e w' => e = .returned (.bool true) ∧ Below w.heap.size w w' := by
  have HF := Lib.hid (laws_zzFits1.calls a0 fl n u b t pt pf pl pi pn false (w.alloc (.cells #[.int .i64 a0, .bool fl, .int .i64 n, .int .u64 u, .int .u64 b, .string t, .int .i64 pt, .bool pf, .bool pl, .int .i64 pi, .int .i64 pn] 26)) (by unfold laws_zzFits1.f; rw [if_pos (by omega)]))
  clear h
  go_enter Tryd.func6, Tryd.ntmps6
  go_wp2_with (go_at_call 22; go_loud (refine HF.out.mono ?_; rintro e_ w1 ⟨rfl, hb⟩; have HB := Lib.hid (spec_le hb); clear hb))
  go_ret
  exact ⟨rfl, HB.out⟩
set_option maxHeartbeats 4000000 in
set_option maxRecDepth 100000 in
theorem encode_un (pe pl_ : Addr) (a0 : Int) (fl : Bool) (n u b : Int) (t : ByteArray) (pt : Int) (pf pl : Bool) (pi pn : Int) (w : World) (he : Env w.heap.size pe pl_ w) (h : ¬ 2147483647 < t.size) (k : Nat) (hc : laws_codClean.f k a0 fl n u b t pt pf pl pi pn = some false) :
    Calls Tryd.prog 6 #[.agg #[.int .i64 a0, .bool fl, .int .i64 n, .int .u64 u, .int .u64 b, .string t, .int .i64 pt, .bool pf, .bool pl, .int .i64 pi, .int .i64 pn]] w fun e w' => e = .returned (.bool true) ∧ Below w.heap.size w w' := by
  have HE := Lib.hid he
  have HF := Lib.hid (laws_zzFits1.calls a0 fl n u b t pt pf pl pi pn true (w.alloc (.cells #[.int .i64 a0, .bool fl, .int .i64 n, .int .u64 u, .int .u64 b, .string t, .int .i64 pt, .bool pf, .bool pl, .int .i64 pi, .int .i64 pn] 26)) (by unfold laws_zzFits1.f; rw [if_neg (by omega)]))
  have HX := Lib.hid (heap_alloc_new w (.cells #[.int .i64 a0, .bool fl, .int .i64 n, .int .u64 u, .int .u64 b, .string t, .int .i64 pt, .bool pf, .bool pl, .int .i64 pi, .int .i64 pn] 26))
  have HCL := Lib.hid (fun W => laws_codClean.calls k a0 fl n u b t pt pf pl pi pn false W hc)
  clear h hc he
  go_enter Tryd.func6, Tryd.ntmps6
  go_wp2_with (first
    | (go_at_call 22; go_loud (refine HF.out.mono ?_; rintro e_ w1 ⟨rfl, hb⟩; have HB := Lib.hid (spec_le hb); have HX1 := Lib.hid (blk_below HX.out hb); obtain ⟨x0, x1, x2, x3, x4, x5, x6, x7, x8, x9, x10⟩ := cells11 HX1.out; clear hb))
    | (go_at_call 23; go_loud ((with_reducible refine (HCL.out _).mono ?_); rintro e_ w2 ⟨rfl, hb⟩; have HB2 := Lib.hid (below_then HB.out HB.out.size hb); clear hb))
    | (go_at_call 21; refine (awake_any w.heap.size pe pl_ w2 (HE.out.below HB2.out) HB2.out.size).mono ?_; rintro e_ w4 ⟨rfl, hb⟩; have HB4 := Lib.hid (below_then HB2.out HB2.out.size hb); clear hb))
  go_ret
  exact ⟨rfl, HB4.out⟩
set_option maxHeartbeats 4000000 in
set_option maxRecDepth 100000 in
theorem encode_ok (pe pl_ : Addr) (a0 : Int) (fl : Bool) (n u b : Int) (t : ByteArray) (pt : Int) (pf pl : Bool) (pi pn : Int) (w : World) (he : Env w.heap.size pe pl_ w) (h : ¬ 2147483647 < t.size) (k : Nat) (hc : laws_codClean.f k a0 fl n u b t pt pf pl pi pn = some true) (l : List UInt8)
    (hv : ∀ W, Calls Tryd.prog 27 #[.agg #[.int .i64 a0, .bool fl, .int .i64 n, .int .u64 u, .int .u64 b, .string t, .int .i64 pt, .bool pf, .bool pl, .int .i64 pi, .int .i64 pn]] W fun e w' => e = .returned (.tuple #[.string ⟨l.toArray⟩, .string ⟨#[]⟩]) ∧ Below W.heap.size W w')
    (hs : ∀ W, Calls Tryd.prog 24 #[.agg #[.int .i64 a0, .bool fl, .int .i64 n, .int .u64 u, .int .u64 b, .string t, .int .i64 pt, .bool pf, .bool pl, .int .i64 pi, .int .i64 pn]] W fun e w' => e = .returned (.string ⟨l.toArray⟩) ∧ Below W.heap.size W w') :
    Calls Tryd.prog 6 #[.agg #[.int .i64 a0, .bool fl, .int .i64 n, .int .u64 u, .int .u64 b, .string t, .int .i64 pt, .bool pf, .bool pl, .int .i64 pi, .int .i64 pn]] w fun e w' => e = .returned (.bool true) ∧ Below w.heap.size w w' := by
  have HE := Lib.hid he
  have HF := Lib.hid (laws_zzFits1.calls a0 fl n u b t pt pf pl pi pn true (w.alloc (.cells #[.int .i64 a0, .bool fl, .int .i64 n, .int .u64 u, .int .u64 b, .string t, .int .i64 pt, .bool pf, .bool pl, .int .i64 pi, .int .i64 pn] 26)) (by unfold laws_zzFits1.f; rw [if_neg (by omega)]))
  have HX := Lib.hid (heap_alloc_new w (.cells #[.int .i64 a0, .bool fl, .int .i64 n, .int .u64 u, .int .u64 b, .string t, .int .i64 pt, .bool pf, .bool pl, .int .i64 pi, .int .i64 pn] 26))
  have HCL := Lib.hid (fun W => laws_codClean.calls k a0 fl n u b t pt pf pl pi pn true W hc)
  have HO := Lib.hid (fun W => laws_codOf.calls a0 fl n u b t pt pf pl pi pn a0 fl n u b t pt pf pl pi pn W (codOf_eq a0 fl n u b t pt pf pl pi pn))
  generalize (⟨l.toArray⟩ : ByteArray) = r at hv hs
  have HV := Lib.hid hv
  have HS := Lib.hid hs
  clear h hc he hv hs
  go_enter Tryd.func6, Tryd.ntmps6
  go_wp2_with (first
    | (go_at_call 22; go_loud (refine HF.out.mono ?_; rintro e_ w1 ⟨rfl, hb⟩; have HB := Lib.hid (spec_le hb); have HX1 := Lib.hid (blk_below HX.out hb); obtain ⟨x0, x1, x2, x3, x4, x5, x6, x7, x8, x9, x10⟩ := cells11 HX1.out; clear hb))
    | (go_at_call 23; go_loud ((with_reducible refine (HCL.out _).mono ?_); rintro e_ w2 ⟨rfl, hb⟩; have HB2 := Lib.hid (below_then HB.out HB.out.size hb); have HX2 := Lib.hid (blk_below HX1.out hb); clear x0 x1 x2 x3 x4 x5 x6 x7 x8 x9 x10; obtain ⟨x0, x1, x2, x3, x4, x5, x6, x7, x8, x9, x10⟩ := cells11 HX2.out; clear hb))
    | (go_at_call 27; go_loud ((with_reducible refine (HV.out _).mono ?_); rintro e_ w3 ⟨rfl, hb⟩; have HB3 := Lib.hid (below_then HB2.out HB2.out.size hb); have HX3 := Lib.hid (blk_below HX2.out hb); clear x0 x1 x2 x3 x4 x5 x6 x7 x8 x9 x10; clear hb))
    | (go_at_call 21; refine (awake_any w.heap.size pe pl_ w3 (HE.out.below HB3.out) HB3.out.size).mono ?_; rintro e_ w4 ⟨rfl, hb⟩; have HB4 := Lib.hid (below_then HB3.out HB3.out.size hb); have HX4 := Lib.hid (blk_below HX3.out hb); obtain ⟨x0, x1, x2, x3, x4, x5, x6, x7, x8, x9, x10⟩ := cells11 HX4.out; clear hb)
    | (go_at_call 25; go_loud ((with_reducible refine (HO.out _).mono ?_); rintro e_ w5 ⟨rfl, hb⟩; have HB5 := Lib.hid (below_then HB4.out HB4.out.size hb); clear hb))
    | (go_at_call 24; go_loud ((with_reducible refine (HS.out _).mono ?_); rintro e_ w6 ⟨rfl, hb⟩; have HB6 := Lib.hid (below_then HB5.out HB5.out.size hb); clear hb)))
  go_ret
  exact ⟨rfl, HB6.out⟩
theorem encode_row (pe pl_ : Addr) (a0 : Int) (fl : Bool) (n u b : Int) (t : ByteArray) (pt : Int) (pf pl : Bool) (pi pn : Int) (w : World) (hn : -9223372036854775808 ≤ n ∧ n ≤ 9223372036854775807) (hu : 0 ≤ u ∧ u < 18446744073709551616) (hb : 0 ≤ b ∧ b < 18446744073709551616) (he : Env w.heap.size pe pl_ w) :
    Calls Tryd.prog 6 #[.agg #[.int .i64 a0, .bool fl, .int .i64 n, .int .u64 u, .int .u64 b, .string t, .int .i64 pt, .bool pf, .bool pl, .int .i64 pi, .int .i64 pn]] w fun e w' => e = .returned (.bool true) ∧ Below w.heap.size w w' := by
  by_cases h : 2147483647 < t.size
  · exact encode_big a0 fl n u b t pt pf pl pi pn w h
  by_cases ho : a0 < 0 ∨ 12 < a0
  · exact encode_un pe pl_ a0 fl n u b t pt pf pl pi pn w he h 5 (clean_out 0 a0 fl n u b t pt pf pl pi pn ho)
  obtain ⟨q, rfl⟩ := Int.eq_ofNat_of_zero_le (show 0 ≤ a0 by omega)
  match q, ho with
  | 0, _ =>
    have hc := clean_0 0 fl n u b t pt pf pl pi pn
    rcases dsplit hc with ⟨hc, hf⟩ | hc
    · exact encode_ok pe pl_ 0 fl n u b t pt pf pl pi pn w he h 5 hc _ (fun W => encVal_0 fl n u b t pt pf pl pi pn W) (fun W => specEnc_0 fl n u b t pt pf pl pi pn W)
    · exact encode_un pe pl_ 0 fl n u b t pt pf pl pi pn w he h 5 hc
  | 1, _ =>
    have hc := clean_1 0 fl n u b t pt pf pl pi pn
    rcases dsplit hc with ⟨hc, hf⟩ | hc
    · exact encode_ok pe pl_ 1 fl n u b t pt pf pl pi pn w he h 5 hc _ (fun W => encVal_1 fl n u b t pt pf pl pi pn W) (fun W => specEnc_1 fl n u b t pt pf pl pi pn W)
    · exact encode_un pe pl_ 1 fl n u b t pt pf pl pi pn w he h 5 hc
  | 2, _ =>
    have hc := clean_2 0 fl n u b t pt pf pl pi pn
    rcases dsplit hc with ⟨hc, hf⟩ | hc
    · have hsz : t.size ≤ 1000000 := by have := hf.2; omega
      exact encode_ok pe pl_ 2 fl n u b t pt pf pl pi pn w he h 5 hc _ (fun W => encVal_2 fl n u b t pt pf pl pi pn W hsz) (fun W => specEnc_2 fl n u b t pt pf pl pi pn hsz W)
    · exact encode_un pe pl_ 2 fl n u b t pt pf pl pi pn w he h 5 hc
  | 3, _ =>
    have hc := clean_3 0 fl n u b t pt pf pl pi pn
    rcases dsplit hc with ⟨hc, hf⟩ | hc
    · exact encode_ok pe pl_ 3 fl n u b t pt pf pl pi pn w he h 5 hc _ (fun W => encVal_3 fl n u b t pt pf pl pi pn W hb.1 hb.2) (fun W => specEnc_3 fl n u b t pt pf pl pi pn hb.1 W)
    · exact encode_un pe pl_ 3 fl n u b t pt pf pl pi pn w he h 5 hc
  | 4, _ =>
    have hc := clean_4 0 fl n u b t pt pf pl pi pn
    rcases dsplit hc with ⟨hc, hf⟩ | hc
    · exact encode_ok pe pl_ 4 fl n u b t pt pf pl pi pn w he h 5 hc _ (fun W => encVal_4 fl n u b t pt pf pl pi pn W hn.1 hn.2) (fun W => specEnc_4 fl n u b t pt pf pl pi pn hn.1 hn.2 W)
    · exact encode_un pe pl_ 4 fl n u b t pt pf pl pi pn w he h 5 hc
  | 5, _ =>
    have hc := clean_5 0 fl n u b t pt pf pl pi pn
    rcases dsplit hc with ⟨hc, hf⟩ | hc
    · exact encode_ok pe pl_ 5 fl n u b t pt pf pl pi pn w he h 5 hc _ (fun W => encVal_5 fl n u b t pt pf pl pi pn W) (fun W => specEnc_5 fl n u b t pt pf pl pi pn W)
    · exact encode_un pe pl_ 5 fl n u b t pt pf pl pi pn w he h 5 hc
  | 6, _ =>
    have hc := clean_6 0 fl n u b t pt pf pl pi pn
    rcases dsplit hc with ⟨hc, hf⟩ | hc
    rotate_left
    · exact encode_un pe pl_ 6 fl n u b t pt pf pl pi pn w he h 5 hc
    · replace hf := hf.2
      obtain ⟨q, rfl⟩ := Int.eq_ofNat_of_zero_le hf.1
      have hq : q < 4 := by have := hf.2.1; omega
      exact encode_ok pe pl_ 6 fl n u b t q pf pl pi pn w he h 5 hc _ (fun W => encVal_6 fl n u b t q pf pl pi pn hq (fun e => by have := hf.2.2 (by omega); exact this) W) (fun W => specEnc_6 fl n u b t q pf pl pi pn hq W)
  | 7, _ =>
    have hc := clean_7 0 fl n u b t pt pf pl pi pn
    rcases dsplit hc with ⟨hc, hf⟩ | hc
    · exact encode_ok pe pl_ 7 fl n u b t pt pf pl pi pn w he h 5 hc _ (fun W => encVal_7 fl n u b t pt pf pl pi pn W hb.1 hb.2) (fun W => specEnc_7 fl n u b t pt pf pl pi pn hb.1 W)
    · exact encode_un pe pl_ 7 fl n u b t pt pf pl pi pn w he h 5 hc
  | 8, _ =>
    have hc := clean_8 0 fl n u b t pt pf pl pi pn
    rcases dsplit hc with ⟨hc, hf⟩ | hc
    · have hsz : t.size ≤ 1000000 := by have := hf.2; omega
      exact encode_ok pe pl_ 8 fl n u b t pt pf pl pi pn w he h 5 hc _ (fun W => encVal_8 fl n u b t pt pf pl pi pn W hsz) (fun W => specEnc_8 fl n u b t pt pf pl pi pn hsz W)
    · exact encode_un pe pl_ 8 fl n u b t pt pf pl pi pn w he h 5 hc
  | 9, _ =>
    have hc := clean_9 0 fl n u b t pt pf pl pi pn
    rcases dsplit hc with ⟨hc, hf⟩ | hc
    · exact encode_ok pe pl_ 9 fl n u b t pt pf pl pi pn w he h 5 hc _ (fun W => encVal_9 fl n u b t pt pf pl pi pn W) (fun W => specEnc_9 fl n u b t pt pf pl pi pn hu.1 W)
    · exact encode_un pe pl_ 9 fl n u b t pt pf pl pi pn w he h 5 hc
  | 10, _ =>
    have hc := clean_10 0 fl n u b t pt pf pl pi pn
    rcases dsplit hc with ⟨hc, hf⟩ | hc
    · exact encode_ok pe pl_ 10 fl n u b t pt pf pl pi pn w he h 5 hc _ (fun W => encVal_10 fl n u b t pt pf pl pi pn W hu.1 hu.2) (fun W => specEnc_10 fl n u b t pt pf pl pi pn hu.1 W)
    · exact encode_un pe pl_ 10 fl n u b t pt pf pl pi pn w he h 5 hc
  | 11, _ =>
    have hc := clean_11 0 fl n u b t pt pf pl pi pn
    rcases dsplit hc with ⟨hc, hf⟩ | hc
    · exact encode_ok pe pl_ 11 fl n u b t pt pf pl pi pn w he h 5 hc _ (fun W => encVal_11 fl n u b t pt pf pl pi pn W) (fun W => specEnc_11 fl n u b t pt pf pl pi pn W)
    · exact encode_un pe pl_ 11 fl n u b t pt pf pl pi pn w he h 5 hc
  | 12, _ =>
    have hc := clean_12 0 fl n u b t pt pf pl pi pn
    rcases dsplit hc with ⟨hc, hf⟩ | hc
    · exact encode_ok pe pl_ 12 fl n u b t pt pf pl pi pn w he h 5 hc _ (fun W => encVal_12 fl n u b t pt pf pl pi pn W hu.1 hu.2) (fun W => specEnc_12 fl n u b t pt pf pl pi pn hu.1 hu.2 W)
    · exact encode_un pe pl_ 12 fl n u b t pt pf pl pi pn w he h 5 hc
  | q + 13, ho => exact absurd (by omega) ho
end Go.Proofs.YtgdbeiadlgkedaaDoor
