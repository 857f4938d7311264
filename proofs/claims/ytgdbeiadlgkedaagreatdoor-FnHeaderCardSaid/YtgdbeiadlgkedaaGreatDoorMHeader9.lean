/- Contracts and plain laws, several texts in one. -/
import Derived.Test.YtgdbeiadlgkedaaGreatDoorMHeader6
import Derived.Test.YtgdbeiadlgkedaaGreatDoorMHeader7
import Derived.Test.YtgdbeiadlgkedaaGreatDoorMHeader8
import Derived.Lib.Varint
set_option linter.unusedVariables false
set_option linter.unusedSimpArgs false
namespace Go.Proofs.YtgdbeiadlgkedaaGreatDoor
open Go.RowKit PFnHeader
theorem or128bP : ∀ d : Fin 256, Go.bits .or .u8 ((d : Nat) : Int) 128 = (((d : Nat) % 128 + 128 : Nat) : Int) := by decide +kernel
theorem sn_oneP (m : Nat) : strOfNums [((m : Nat) : Int)] = ⟨#[m.toUInt8]⟩ := by simp [strOfNums]
theorem le1P (s : ByteArray) (x : UInt8) (h : s.size + 1 ≤ 1000) : s.size + (⟨#[x]⟩ : ByteArray).size ≤ 9223372036854775807 := Nat.le_trans h (by decide)
theorem varint_l0P : ∀ (n v : Nat) (s : ByteArray), v ≤ n → s.size + (Lib.uvarint v).length ≤ 1000 → ∃ k, spec_CodVarint.l0 k (v : Int) s = some (s ++ ⟨(Lib.uvarint v).toArray⟩) := by
  intro n
  induction n with
  | zero =>
    intro v s hv hs
    obtain rfl : v = 0 := by omega
    refine ⟨1, ?_⟩
    rw [Lib.uvarint_small (by decide)] at hs ⊢
    rw [spec_CodVarint.l0, if_neg (by omega)]
    simp only [Option.bind_some]
    rw [show (((0 : Nat) : Int) % 256) = ((0 : Nat) : Int) by decide, sn_oneP]
    rw [if_pos (le1P s _ (show s.size + 1 ≤ 1000 from hs))]
  | succ n ih =>
    intro v s hv hs
    by_cases h : v < 128
    · refine ⟨1, ?_⟩
      rw [Lib.uvarint_small h] at hs ⊢
      rw [spec_CodVarint.l0, if_neg (by omega)]
      simp only [Option.bind_some]
      rw [show ((v : Int) % 256) = ((v : Nat) : Int) by omega, sn_oneP]
      rw [if_pos (le1P s _ (show s.size + 1 ≤ 1000 from hs))]
    · rw [Lib.uvarint_big (by omega)] at hs ⊢
      obtain ⟨k, hk⟩ := ih (v / 128) (s ++ ⟨#[(v % 128 + 128).toUInt8]⟩) (by omega) (by rw [List.length_cons] at hs; rw [ByteArray.size_append]; show s.size + 1 + _ ≤ 1000; omega)
      refine ⟨k + 1, ?_⟩
      rw [spec_CodVarint.l0, if_pos (by omega)]
      simp only [Option.bind_some]
      have e : ((v : Int) % 256) = (((⟨v % 256, by omega⟩ : Fin 256) : Nat) : Int) := by simp
      rw [e, or128bP, show ((⟨v % 256, by omega⟩ : Fin 256) : Nat) % 128 + 128 = v % 128 + 128 by simp only; omega, sn_oneP]
      rw [if_pos (le1P s _ (show s.size + 1 ≤ 1000 by rw [List.length_cons] at hs; omega)), show ((v : Int) / 128) = ((v / 128 : Nat) : Int) by omega, hk]
      congr 1
      apply ByteArray.ext
      simp
theorem varint_someP (v : Nat) (hv : v < 18446744073709551616) : ∃ k, spec_CodVarint.f k (v : Int) = some ⟨(Lib.uvarint v).toArray⟩ := by
  obtain ⟨k, hk⟩ := varint_l0P v v ⟨#[]⟩ (Nat.le_refl _) (by have := Lib.uvarint_length64 hv; simp [ByteArray.size]; omega)
  refine ⟨k, ?_⟩
  rw [spec_CodVarint.f, hk]
  congr 1
theorem varint_upP (y : Int) (r : ByteArray) : ∀ d k, spec_CodVarint.f k y = some r → spec_CodVarint.f (k + d) y = some r
  | 0, _, h => h
  | d + 1, k, h => spec_CodVarint.mono y (k + d) r (varint_upP y r d k h)
def phead (t : Nat) (f l : Bool) : Nat := t * 4 + (if f then 1 else 0) + (if l then 2 else 0)
theorem phead_lt {t : Nat} (h : t < 4) (f l : Bool) : phead t f l < 16 := by unfold phead; split <;> split <;> omega
theorem hd_spec : ∀ (t : Fin 4) (f l : Bool), (if l then Go.bits .or .u8 (if f then Go.bits .or .u8 ((wrap64 (((t : Nat) : Int) * 4)) % 256) 1 else (wrap64 (((t : Nat) : Int) * 4)) % 256) 2 else (if f then Go.bits .or .u8 ((wrap64 (((t : Nat) : Int) * 4)) % 256) 1 else (wrap64 (((t : Nat) : Int) * 4)) % 256)) = (phead t f l : Int) := by decide +kernel
theorem or16 : ∀ (h : Fin 16), Go.bits .or .u8 ((h : Nat) : Int) 16 = (((h : Nat) + 16 : Nat) : Int) := by decide +kernel
theorem or32 : ∀ (h : Fin 16), Go.bits .or .u8 ((h : Nat) : Int) 32 = (((h : Nat) + 32 : Nat) : Int) := by decide +kernel
def u64n (t : Int) : Nat := (t % 18446744073709551616).toNat
theorem u64n_lt (t : Int) : u64n t < 18446744073709551616 := by unfold u64n; omega
theorem u64n_wrap (t : Int) : IntKind.u64.wrap t = (u64n t : Int) := by
  unfold u64n
  simp [IntKind.wrap, IntKind.bits, IntKind.signed]
  omega
def pbytes (t : Nat) (f l : Bool) (i n : Int) : List UInt8 :=
  if (i = 0 ∧ n = 0) ∨ t = 3 then [(phead t f l).toUInt8]
  else if i = n ∨ t = 0 then (phead t f l + 16).toUInt8 :: Lib.uvarint (u64n i)
  else (phead t f l + 32).toUInt8 :: (Lib.uvarint (u64n i) ++ Lib.uvarint (u64n n))
theorem paned_some (t : Nat) (ht : t < 4) (f l : Bool) (i n : Int) : ∃ k, spec_CodPaned.f k (t : Int) f l i n = some ⟨(pbytes t f l i n).toArray⟩ := by
  obtain ⟨k1, h1⟩ := varint_someP (u64n i) (u64n_lt i)
  obtain ⟨k2, h2⟩ := varint_someP (u64n n) (u64n_lt n)
  have l1 := Lib.uvarint_length64 (u64n_lt i)
  have l2 := Lib.uvarint_length64 (u64n_lt n)
  have hh := hd_spec ⟨t, ht⟩ f l
  simp only at hh
  have hp := phead_lt ht f l
  have o16 := or16 ⟨phead t f l, hp⟩
  have o32 := or32 ⟨phead t f l, hp⟩
  simp only at o16 o32
  refine ⟨k1 + k2 + 4, ?_⟩
  have v1 := varint_upP _ _ k2 k1 h1
  have v2 := varint_upP _ _ k1 k2 h2
  rw [show k2 + k1 = k1 + k2 by omega] at v2
  have e0 : spec_CodPaned.f (k1 + k2 + 4) (t : Int) f l i n = spec_CodPaned.j1 (k1 + k2 + 3) (phead t f l : Int) (t : Int) f l i n := by
    rw [← hh, spec_CodPaned.f]
    cases f
    · rw [if_neg (by simp), spec_CodPaned.j0]
      cases l
      · rw [if_neg (by simp)]; simp only [Bool.false_eq_true, if_false]
      · rw [if_pos rfl]; simp only [Bool.false_eq_true, if_false, if_true]
    · rw [if_pos rfl, spec_CodPaned.j0]
      cases l
      · rw [if_neg (by simp)]; simp only [Bool.false_eq_true, if_false, if_true]
      · rw [if_pos rfl]; simp only [if_true]
  rw [e0]
  have e3 : ((t : Int) == 3) = decide (t = 3) := by
    rw [Bool.eq_iff_iff]; simp; omega
  have e1 : spec_CodPaned.j1 (k1 + k2 + 3) (phead t f l : Int) (t : Int) f l i n = spec_CodPaned.j2 (k1 + k2 + 2) (phead t f l : Int) (decide ((i = 0 ∧ n = 0) ∨ t = 3)) (t : Int) f l i n := by
    rw [spec_CodPaned.j1, e3]
    by_cases hi : i = 0
    · by_cases hn : n = 0
      · simp [hi, hn]
      · simp [hi, hn]
    · simp [hi]
  rw [e1, spec_CodPaned.j2]
  unfold pbytes
  by_cases c1 : (i = 0 ∧ n = 0) ∨ t = 3
  · rw [if_pos (by simpa using c1), if_pos c1, sn_oneP]
  · rw [if_neg (by simpa using c1), if_neg c1]
    have e4 : (if i = n then spec_CodPaned.j3 (k1 + k2 + 1) (phead t f l : Int) true (t : Int) f l i n else spec_CodPaned.j3 (k1 + k2 + 1) (phead t f l : Int) ((t : Int) == 0) (t : Int) f l i n) = spec_CodPaned.j3 (k1 + k2 + 1) (phead t f l : Int) (decide (i = n ∨ t = 0)) (t : Int) f l i n := by
      by_cases c2 : i = n
      · simp [c2]
      · rw [if_neg c2, show ((t : Int) == 0) = decide (i = n ∨ t = 0) by rw [Bool.eq_iff_iff]; simp [c2]]
    rw [e4, spec_CodPaned.j3]
    by_cases c3 : i = n ∨ t = 0
    · rw [if_pos (by simpa using c3), if_pos c3]
      simp only [Option.bind_some]
      rw [o16, sn_oneP, u64n_wrap, v1]
      simp only [Option.bind_some]
      rw [if_pos (by simp [ByteArray.size]; omega)]
      congr 1
    · rw [if_neg (by simpa using c3), if_neg c3]
      simp only [Option.bind_some]
      rw [o32, sn_oneP, u64n_wrap, u64n_wrap, v1]
      simp only [Option.bind_some]
      rw [if_pos (by simp [ByteArray.size]; omega), v2]
      simp only [Option.bind_some]
      rw [if_pos (by simp [ByteArray.size]; omega)]
      congr 1
end Go.Proofs.YtgdbeiadlgkedaaGreatDoor
set_option linter.unusedVariables false
set_option linter.unusedSimpArgs false
namespace Go.Proofs.YtgdbeiadlgkedaaGreatDoor
open Go.RowKit Go.Proofs.YtgdbeiadlgkedaaGreatDoorW.PrintWords Go.Proofs.YtgdbeiadlgkedaaGreatDoorW.PrintLast Go.Proofs.YtgdbeiadlgkedaaGreatDoorW.PrintMore
theorem kept100 {b k : Nat} {cs : Array Value} {w w' : World} (h : Lib.OthersKept 5 (some b) w w') (hk : w.heap[k]? = some (.cells cs 119 (0, 0))) (hne : k ≠ b) : w'.heap[k]? = some (.cells cs 119 (0, 0)) :=
  h k _ hk (by simpa using hne) (fun c fz e => by injection e with _ e _; exact absurd e (by decide))
theorem one_wr (B b : Nat) (l0 : List UInt8) (m : Nat) (hm : m < 256) (w : World) (cs : Array Value) (h : Bf B b l0 w) (hlim : l0.length + 1 ≤ 140737488355328) :
    Calls Tryz.prog 135 #[.pointer (some ⟨b, 0, none⟩), .slice (some ⟨w.heap.size + 1, 0, none⟩) 1 1] ((w.alloc (.cells cs 119)).alloc (.cells #[.int .u8 (m : Int)] 5)) fun e w' => e = .returned (.tuple #[.int .i64 1, .nilIface]) ∧ Bf B b (l0 ++ [m.toUInt8]) w' ∧ Below B w w' ∧ w'.heap[w.heap.size]? = some (.cells cs 119 (0, 0)) := by
  have hb : Below w.heap.size w ((w.alloc (.cells cs 119)).alloc (.cells #[.int .u8 (m : Int)] 5)) := ((Below.refl _ w).alloc (Nat.le_refl _) _).alloc (by simp) _
  have hs := h.size
  have hlt := h.lt
  have hx : ((w.alloc (.cells cs 119)).alloc (.cells #[.int .u8 (m : Int)] 5)).heap[w.heap.size]? = some (.cells cs 119 (0, 0)) := blk_alloc (heap_alloc_new w (.cells cs 119)) _
  refine (write_any B b l0 [m.toUInt8] ⟨w.heap.size + 1, 0, none⟩ 1 1 _ (h.old hb) rfl (by show w.heap.size + 1 ≠ b; omega) (At.mk fun j x hj => ?_) hlim).mono fun e w' ⟨h1, h2, h3, h4⟩ => ⟨h1, h2, Below.lower hb hs h3, kept100 h4 hx (by omega)⟩
  have hn := heap_alloc_new (w.alloc (.cells cs 119)) (.cells #[.int .u8 (m : Int)] 5)
  rw [World.size_alloc] at hn
  rw [blk_cell hn j]
  cases j with
  | zero => simp at hj; subst hj; simp [Nat.toUInt8, UInt8.toNat_ofNat', Nat.mod_eq_of_lt hm]
  | succ j => simp at hj
theorem hd_enc : ∀ (t : Fin 4) (f l : Bool), Go.bits .or .u8 (if l then Go.bits .or .u8 (if f then Go.bits .or .u8 0 1 else 0) 2 else (if f then Go.bits .or .u8 0 1 else 0)) (((t : Nat) : Int) * 4) = (phead t f l : Int) := by decide +kernel
set_option maxHeartbeats 2000000 in
set_option maxRecDepth 100000 in
theorem encPane_a1 (B b : Nat) (t : Nat) (ht : t < 4) (f l : Bool) (i n : Int) (hi : i = 0) (hn : n = 0) (l0 : List UInt8) (w : World) (h : Bf B b l0 w) (hlim : l0.length + 100 ≤ 140737488355328) :
    Calls Tryz.prog 70 #[.agg #[.int .u8 t, .bool f, .bool l, .int .i64 i, .int .i64 n], bfI b] w fun e w' => e = .returned .nilIface ∧ Bf B b (l0 ++ [(phead t f l).toUInt8]) w' ∧ Below B w w' := by
  have H := Lib.hid h
  have HL := Lib.hid hlim
  have P1 := hd_enc ⟨t, ht⟩ f l
  have O16 := or16 ⟨phead t f l, phead_lt ht f l⟩
  have O32 := or32 ⟨phead t f l, phead_lt ht f l⟩
  have hp := phead_lt ht f l
  simp only at P1 O16 O32
  generalize phead t f l = ph at P1 O16 O32 hp ⊢
  obtain ⟨m16, h16⟩ : ∃ m, ph + 16 = m := ⟨_, rfl⟩
  obtain ⟨m32, h32⟩ : ∃ m, ph + 32 = m := ⟨_, rfl⟩
  rw [h16] at O16
  rw [h32] at O32
  try rw [h16]
  try rw [h32]
  have HM := Lib.hid (And.intro hp (And.intro h16 h32))
  clear h hlim hp h16 h32
  subst hi
  subst hn
  cases f <;> cases l <;> (
    simp only [Bool.false_eq_true, if_false, if_true] at P1
    go_enter Tryz.func70, Tryz.ntmps70
    go_wp2_with (first
      | (go_at_call 135; (refine (one_wr B b l0 ph (by have := HM.out; omega) w _ H.out (by have := HL.out; omega)).mono ?_; rintro e_ w1 ⟨rfl, h1, h2, h3⟩; have H1 := Lib.hid h1; have H2 := Lib.hid h2; have HX := Lib.hid h3; have x3 := (blk_cell h3 3).trans (rfl : _ = some (Value.int .i64 (0))); have x4 := (blk_cell h3 4).trans (rfl : _ = some (Value.int .i64 (0))); clear h1 h2 h3)))
    go_ret
    exact ⟨rfl, H1.out, H2.out⟩)
set_option maxHeartbeats 2000000 in
set_option maxRecDepth 100000 in
theorem encPane_a2 (B b : Nat) (t : Nat) (ht : t < 4) (f l : Bool) (i n : Int) (ht3 : t = 3) (hi : i ≠ 0) (l0 : List UInt8) (w : World) (h : Bf B b l0 w) (hlim : l0.length + 100 ≤ 140737488355328) :
    Calls Tryz.prog 70 #[.agg #[.int .u8 t, .bool f, .bool l, .int .i64 i, .int .i64 n], bfI b] w fun e w' => e = .returned .nilIface ∧ Bf B b (l0 ++ [(phead t f l).toUInt8]) w' ∧ Below B w w' := by
  have H := Lib.hid h
  have HL := Lib.hid hlim
  have P1 := hd_enc ⟨t, ht⟩ f l
  have O16 := or16 ⟨phead t f l, phead_lt ht f l⟩
  have O32 := or32 ⟨phead t f l, phead_lt ht f l⟩
  have hp := phead_lt ht f l
  simp only at P1 O16 O32
  generalize phead t f l = ph at P1 O16 O32 hp ⊢
  obtain ⟨m16, h16⟩ : ∃ m, ph + 16 = m := ⟨_, rfl⟩
  obtain ⟨m32, h32⟩ : ∃ m, ph + 32 = m := ⟨_, rfl⟩
  rw [h16] at O16
  rw [h32] at O32
  try rw [h16]
  try rw [h32]
  have HM := Lib.hid (And.intro hp (And.intro h16 h32))
  clear h hlim hp h16 h32
  have k3 : ((t : Int) == 3) = true := beq_iff_eq.2 (by omega)
  have qi : (i == 0) = false := beq_eq_false_iff_ne.2 (hi)
  clear hi ht3
  cases f <;> cases l <;> (
    simp only [Bool.false_eq_true, if_false, if_true] at P1
    go_enter Tryz.func70, Tryz.ntmps70
    go_wp2_with (first
      | (go_at_call 135; (refine (one_wr B b l0 ph (by have := HM.out; omega) w _ H.out (by have := HL.out; omega)).mono ?_; rintro e_ w1 ⟨rfl, h1, h2, h3⟩; have H1 := Lib.hid h1; have H2 := Lib.hid h2; have HX := Lib.hid h3; have x3 := (blk_cell h3 3).trans (rfl : _ = some (Value.int .i64 (i))); have x4 := (blk_cell h3 4).trans (rfl : _ = some (Value.int .i64 (n))); clear h1 h2 h3)))
    go_ret
    exact ⟨rfl, H1.out, H2.out⟩)
set_option maxHeartbeats 2000000 in
set_option maxRecDepth 100000 in
theorem encPane_a3 (B b : Nat) (t : Nat) (ht : t < 4) (f l : Bool) (i n : Int) (ht3 : t = 3) (hi : i = 0) (hn : n ≠ 0) (l0 : List UInt8) (w : World) (h : Bf B b l0 w) (hlim : l0.length + 100 ≤ 140737488355328) :
    Calls Tryz.prog 70 #[.agg #[.int .u8 t, .bool f, .bool l, .int .i64 i, .int .i64 n], bfI b] w fun e w' => e = .returned .nilIface ∧ Bf B b (l0 ++ [(phead t f l).toUInt8]) w' ∧ Below B w w' := by
  have H := Lib.hid h
  have HL := Lib.hid hlim
  have P1 := hd_enc ⟨t, ht⟩ f l
  have O16 := or16 ⟨phead t f l, phead_lt ht f l⟩
  have O32 := or32 ⟨phead t f l, phead_lt ht f l⟩
  have hp := phead_lt ht f l
  simp only at P1 O16 O32
  generalize phead t f l = ph at P1 O16 O32 hp ⊢
  obtain ⟨m16, h16⟩ : ∃ m, ph + 16 = m := ⟨_, rfl⟩
  obtain ⟨m32, h32⟩ : ∃ m, ph + 32 = m := ⟨_, rfl⟩
  rw [h16] at O16
  rw [h32] at O32
  try rw [h16]
  try rw [h32]
  have HM := Lib.hid (And.intro hp (And.intro h16 h32))
  clear h hlim hp h16 h32
  subst hi
  have k3 : ((t : Int) == 3) = true := beq_iff_eq.2 (by omega)
  have qn : (n == 0) = false := beq_eq_false_iff_ne.2 (hn)
  clear hn ht3
  cases f <;> cases l <;> (
    simp only [Bool.false_eq_true, if_false, if_true] at P1
    go_enter Tryz.func70, Tryz.ntmps70
    go_wp2_with (first
      | (go_at_call 135; (refine (one_wr B b l0 ph (by have := HM.out; omega) w _ H.out (by have := HL.out; omega)).mono ?_; rintro e_ w1 ⟨rfl, h1, h2, h3⟩; have H1 := Lib.hid h1; have H2 := Lib.hid h2; have HX := Lib.hid h3; have x3 := (blk_cell h3 3).trans (rfl : _ = some (Value.int .i64 (0))); have x4 := (blk_cell h3 4).trans (rfl : _ = some (Value.int .i64 (n))); clear h1 h2 h3)))
    go_ret
    exact ⟨rfl, H1.out, H2.out⟩)
set_option maxHeartbeats 2000000 in
set_option maxRecDepth 100000 in
theorem encPane_b1 (B b : Nat) (t : Nat) (ht : t < 4) (f l : Bool) (i n : Int) (ht3 : t ≠ 3) (ht0 : t ≠ 0) (hi : i ≠ 0) (hin : i = n) (l0 : List UInt8) (w : World) (h : Bf B b l0 w) (hlim : l0.length + 100 ≤ 140737488355328) :
    Calls Tryz.prog 70 #[.agg #[.int .u8 t, .bool f, .bool l, .int .i64 i, .int .i64 n], bfI b] w fun e w' => e = .returned .nilIface ∧ Bf B b (l0 ++ ((phead t f l + 16).toUInt8 :: Lib.uvarint (u64of i))) w' ∧ Below B w w' := by
  have H := Lib.hid h
  have HL := Lib.hid hlim
  have P1 := hd_enc ⟨t, ht⟩ f l
  have O16 := or16 ⟨phead t f l, phead_lt ht f l⟩
  have O32 := or32 ⟨phead t f l, phead_lt ht f l⟩
  have hp := phead_lt ht f l
  simp only at P1 O16 O32
  generalize phead t f l = ph at P1 O16 O32 hp ⊢
  obtain ⟨m16, h16⟩ : ∃ m, ph + 16 = m := ⟨_, rfl⟩
  obtain ⟨m32, h32⟩ : ∃ m, ph + 32 = m := ⟨_, rfl⟩
  rw [h16] at O16
  rw [h32] at O32
  try rw [h16]
  try rw [h32]
  have HM := Lib.hid (And.intro hp (And.intro h16 h32))
  clear h hlim hp h16 h32
  subst hin
  have k3 : ((t : Int) == 3) = false := beq_eq_false_iff_ne.2 (by omega)
  have k0 : ((t : Int) == 0) = false := beq_eq_false_iff_ne.2 (by omega)
  have qi : (i == 0) = false := beq_eq_false_iff_ne.2 (hi)
  clear hi ht3 ht0
  cases f <;> cases l <;> (
    simp only [Bool.false_eq_true, if_false, if_true] at P1
    go_enter Tryz.func70, Tryz.ntmps70
    go_wp2_with (first
      | (go_at_call 135; (refine (one_wr B b l0 m16 (by have := HM.out; omega) w _ H.out (by have := HL.out; omega)).mono ?_; rintro e_ w1 ⟨rfl, h1, h2, h3⟩; have H1 := Lib.hid h1; have H2 := Lib.hid h2; have HX := Lib.hid h3; have x3 := (blk_cell h3 3).trans (rfl : _ = some (Value.int .i64 (i))); have x4 := (blk_cell h3 4).trans (rfl : _ = some (Value.int .i64 (i))); clear h1 h2 h3))
      | (go_at_call 76; (with_reducible refine (encVarI_any B b (i) _ w1 H1.out (by have := HL.out; simp only [List.length_append, List.length_singleton]; omega)).mono ?_); rintro e_ w2 ⟨rfl, h1, h2, h3⟩; have H3 := Lib.hid h1; have H4 := Lib.hid (H2.out.trans h2); have hx := kept100 h3 HX.out (by have := H.out.lt; omega); have x4 := (blk_cell hx 4).trans (rfl : _ = some (Value.int .i64 (i))); clear h1 h2 h3 hx))
    go_ret
    exact ⟨rfl, by have h := H3.out; rw [List.append_assoc] at h; exact h, H4.out⟩)
end Go.Proofs.YtgdbeiadlgkedaaGreatDoor
set_option linter.unusedVariables false
set_option linter.unusedSimpArgs false
namespace Go.Proofs.YtgdbeiadlgkedaaGreatDoor
open Go.RowKit Go.Proofs.YtgdbeiadlgkedaaGreatDoorW.PrintWords Go.Proofs.YtgdbeiadlgkedaaGreatDoorW.PrintLast Go.Proofs.YtgdbeiadlgkedaaGreatDoorW.PrintMore
set_option maxHeartbeats 2000000 in
set_option maxRecDepth 100000 in
theorem encPane_b2 (B b : Nat) (t : Nat) (ht : t < 4) (f l : Bool) (i n : Int) (ht0 : t = 0) (hi : i ≠ 0) (hi1 : i ≠ -1) (hn : n = -1) (l0 : List UInt8) (w : World) (h : Bf B b l0 w) (hlim : l0.length + 100 ≤ 140737488355328) :
    Calls Tryz.prog 70 #[.agg #[.int .u8 t, .bool f, .bool l, .int .i64 i, .int .i64 n], bfI b] w fun e w' => e = .returned .nilIface ∧ Bf B b (l0 ++ ((phead t f l + 16).toUInt8 :: Lib.uvarint (u64of i))) w' ∧ Below B w w' := by
  have H := Lib.hid h
  have HL := Lib.hid hlim
  have P1 := hd_enc ⟨t, ht⟩ f l
  have O16 := or16 ⟨phead t f l, phead_lt ht f l⟩
  have O32 := or32 ⟨phead t f l, phead_lt ht f l⟩
  have hp := phead_lt ht f l
  simp only at P1 O16 O32
  generalize phead t f l = ph at P1 O16 O32 hp ⊢
  obtain ⟨m16, h16⟩ : ∃ m, ph + 16 = m := ⟨_, rfl⟩
  obtain ⟨m32, h32⟩ : ∃ m, ph + 32 = m := ⟨_, rfl⟩
  rw [h16] at O16
  rw [h32] at O32
  try rw [h16]
  try rw [h32]
  have HM := Lib.hid (And.intro hp (And.intro h16 h32))
  clear h hlim hp h16 h32
  subst hn
  have qi1 : (i == -1) = false := beq_eq_false_iff_ne.2 (hi1)
  have k3 : ((t : Int) == 3) = false := beq_eq_false_iff_ne.2 (by omega)
  have k0 : ((t : Int) == 0) = true := beq_iff_eq.2 (by omega)
  have qi : (i == 0) = false := beq_eq_false_iff_ne.2 (hi)
  clear hi hi1 ht0
  cases f <;> cases l <;> (
    simp only [Bool.false_eq_true, if_false, if_true] at P1
    go_enter Tryz.func70, Tryz.ntmps70
    go_wp2_with (first
      | (go_at_call 135; (refine (one_wr B b l0 m16 (by have := HM.out; omega) w _ H.out (by have := HL.out; omega)).mono ?_; rintro e_ w1 ⟨rfl, h1, h2, h3⟩; have H1 := Lib.hid h1; have H2 := Lib.hid h2; have HX := Lib.hid h3; have x3 := (blk_cell h3 3).trans (rfl : _ = some (Value.int .i64 (i))); have x4 := (blk_cell h3 4).trans (rfl : _ = some (Value.int .i64 (-1))); clear h1 h2 h3))
      | (go_at_call 76; (with_reducible refine (encVarI_any B b (i) _ w1 H1.out (by have := HL.out; simp only [List.length_append, List.length_singleton]; omega)).mono ?_); rintro e_ w2 ⟨rfl, h1, h2, h3⟩; have H3 := Lib.hid h1; have H4 := Lib.hid (H2.out.trans h2); have hx := kept100 h3 HX.out (by have := H.out.lt; omega); have x4 := (blk_cell hx 4).trans (rfl : _ = some (Value.int .i64 (-1))); clear h1 h2 h3 hx))
    go_ret
    exact ⟨rfl, by have h := H3.out; rw [List.append_assoc] at h; exact h, H4.out⟩)
set_option maxHeartbeats 2000000 in
set_option maxRecDepth 100000 in
theorem encPane_b3 (B b : Nat) (t : Nat) (ht : t < 4) (f l : Bool) (i n : Int) (ht0 : t = 0) (hi : i = 0) (hn : n = -1) (l0 : List UInt8) (w : World) (h : Bf B b l0 w) (hlim : l0.length + 100 ≤ 140737488355328) :
    Calls Tryz.prog 70 #[.agg #[.int .u8 t, .bool f, .bool l, .int .i64 i, .int .i64 n], bfI b] w fun e w' => e = .returned .nilIface ∧ Bf B b (l0 ++ ((phead t f l + 16).toUInt8 :: Lib.uvarint (u64of i))) w' ∧ Below B w w' := by
  have H := Lib.hid h
  have HL := Lib.hid hlim
  have P1 := hd_enc ⟨t, ht⟩ f l
  have O16 := or16 ⟨phead t f l, phead_lt ht f l⟩
  have O32 := or32 ⟨phead t f l, phead_lt ht f l⟩
  have hp := phead_lt ht f l
  simp only at P1 O16 O32
  generalize phead t f l = ph at P1 O16 O32 hp ⊢
  obtain ⟨m16, h16⟩ : ∃ m, ph + 16 = m := ⟨_, rfl⟩
  obtain ⟨m32, h32⟩ : ∃ m, ph + 32 = m := ⟨_, rfl⟩
  rw [h16] at O16
  rw [h32] at O32
  try rw [h16]
  try rw [h32]
  have HM := Lib.hid (And.intro hp (And.intro h16 h32))
  clear h hlim hp h16 h32
  subst hn
  subst hi
  have k3 : ((t : Int) == 3) = false := beq_eq_false_iff_ne.2 (by omega)
  have k0 : ((t : Int) == 0) = true := beq_iff_eq.2 (by omega)
  clear ht0
  cases f <;> cases l <;> (
    simp only [Bool.false_eq_true, if_false, if_true] at P1
    go_enter Tryz.func70, Tryz.ntmps70
    go_wp2_with (first
      | (go_at_call 135; (refine (one_wr B b l0 m16 (by have := HM.out; omega) w _ H.out (by have := HL.out; omega)).mono ?_; rintro e_ w1 ⟨rfl, h1, h2, h3⟩; have H1 := Lib.hid h1; have H2 := Lib.hid h2; have HX := Lib.hid h3; have x3 := (blk_cell h3 3).trans (rfl : _ = some (Value.int .i64 (0))); have x4 := (blk_cell h3 4).trans (rfl : _ = some (Value.int .i64 (-1))); clear h1 h2 h3))
      | (go_at_call 76; (with_reducible refine (encVarI_any B b (0) _ w1 H1.out (by have := HL.out; simp only [List.length_append, List.length_singleton]; omega)).mono ?_); rintro e_ w2 ⟨rfl, h1, h2, h3⟩; have H3 := Lib.hid h1; have H4 := Lib.hid (H2.out.trans h2); have hx := kept100 h3 HX.out (by have := H.out.lt; omega); have x4 := (blk_cell hx 4).trans (rfl : _ = some (Value.int .i64 (-1))); clear h1 h2 h3 hx))
    go_ret
    exact ⟨rfl, by have h := H3.out; rw [List.append_assoc] at h; exact h, H4.out⟩)
set_option maxHeartbeats 2000000 in
set_option maxRecDepth 100000 in
theorem encPane_b4 (B b : Nat) (t : Nat) (ht : t < 4) (f l : Bool) (i n : Int) (ht0 : t = 0) (hi : i = -1) (hn : n = -1) (l0 : List UInt8) (w : World) (h : Bf B b l0 w) (hlim : l0.length + 100 ≤ 140737488355328) :
    Calls Tryz.prog 70 #[.agg #[.int .u8 t, .bool f, .bool l, .int .i64 i, .int .i64 n], bfI b] w fun e w' => e = .returned .nilIface ∧ Bf B b (l0 ++ ((phead t f l + 16).toUInt8 :: Lib.uvarint (u64of i))) w' ∧ Below B w w' := by
  have H := Lib.hid h
  have HL := Lib.hid hlim
  have P1 := hd_enc ⟨t, ht⟩ f l
  have O16 := or16 ⟨phead t f l, phead_lt ht f l⟩
  have O32 := or32 ⟨phead t f l, phead_lt ht f l⟩
  have hp := phead_lt ht f l
  simp only at P1 O16 O32
  generalize phead t f l = ph at P1 O16 O32 hp ⊢
  obtain ⟨m16, h16⟩ : ∃ m, ph + 16 = m := ⟨_, rfl⟩
  obtain ⟨m32, h32⟩ : ∃ m, ph + 32 = m := ⟨_, rfl⟩
  rw [h16] at O16
  rw [h32] at O32
  try rw [h16]
  try rw [h32]
  have HM := Lib.hid (And.intro hp (And.intro h16 h32))
  clear h hlim hp h16 h32
  subst hn
  subst hi
  have k3 : ((t : Int) == 3) = false := beq_eq_false_iff_ne.2 (by omega)
  have k0 : ((t : Int) == 0) = true := beq_iff_eq.2 (by omega)
  clear ht0
  cases f <;> cases l <;> (
    simp only [Bool.false_eq_true, if_false, if_true] at P1
    go_enter Tryz.func70, Tryz.ntmps70
    go_wp2_with (first
      | (go_at_call 135; (refine (one_wr B b l0 m16 (by have := HM.out; omega) w _ H.out (by have := HL.out; omega)).mono ?_; rintro e_ w1 ⟨rfl, h1, h2, h3⟩; have H1 := Lib.hid h1; have H2 := Lib.hid h2; have HX := Lib.hid h3; have x3 := (blk_cell h3 3).trans (rfl : _ = some (Value.int .i64 (-1))); have x4 := (blk_cell h3 4).trans (rfl : _ = some (Value.int .i64 (-1))); clear h1 h2 h3))
      | (go_at_call 76; (with_reducible refine (encVarI_any B b (-1) _ w1 H1.out (by have := HL.out; simp only [List.length_append, List.length_singleton]; omega)).mono ?_); rintro e_ w2 ⟨rfl, h1, h2, h3⟩; have H3 := Lib.hid h1; have H4 := Lib.hid (H2.out.trans h2); have hx := kept100 h3 HX.out (by have := H.out.lt; omega); have x4 := (blk_cell hx 4).trans (rfl : _ = some (Value.int .i64 (-1))); clear h1 h2 h3 hx))
    go_ret
    exact ⟨rfl, by have h := H3.out; rw [List.append_assoc] at h; exact h, H4.out⟩)
set_option maxHeartbeats 2000000 in
set_option maxRecDepth 100000 in
theorem encPane_c1 (B b : Nat) (t : Nat) (ht : t < 4) (f l : Bool) (i n : Int) (ht3 : t ≠ 3) (ht0 : t ≠ 0) (hi : i ≠ 0) (hin : i ≠ n) (l0 : List UInt8) (w : World) (h : Bf B b l0 w) (hlim : l0.length + 100 ≤ 140737488355328) :
    Calls Tryz.prog 70 #[.agg #[.int .u8 t, .bool f, .bool l, .int .i64 i, .int .i64 n], bfI b] w fun e w' => e = .returned .nilIface ∧ Bf B b (l0 ++ ((phead t f l + 32).toUInt8 :: (Lib.uvarint (u64of i) ++ Lib.uvarint (u64of n)))) w' ∧ Below B w w' := by
  have H := Lib.hid h
  have HL := Lib.hid hlim
  have P1 := hd_enc ⟨t, ht⟩ f l
  have O16 := or16 ⟨phead t f l, phead_lt ht f l⟩
  have O32 := or32 ⟨phead t f l, phead_lt ht f l⟩
  have hp := phead_lt ht f l
  simp only at P1 O16 O32
  generalize phead t f l = ph at P1 O16 O32 hp ⊢
  obtain ⟨m16, h16⟩ : ∃ m, ph + 16 = m := ⟨_, rfl⟩
  obtain ⟨m32, h32⟩ : ∃ m, ph + 32 = m := ⟨_, rfl⟩
  rw [h16] at O16
  rw [h32] at O32
  try rw [h16]
  try rw [h32]
  have HM := Lib.hid (And.intro hp (And.intro h16 h32))
  clear h hlim hp h16 h32
  have k3 : ((t : Int) == 3) = false := beq_eq_false_iff_ne.2 (by omega)
  have k0 : ((t : Int) == 0) = false := beq_eq_false_iff_ne.2 (by omega)
  have qi : (i == 0) = false := beq_eq_false_iff_ne.2 (hi)
  have qin : (i == n) = false := beq_eq_false_iff_ne.2 (hin)
  clear hi ht3 ht0 hin
  cases f <;> cases l <;> (
    simp only [Bool.false_eq_true, if_false, if_true] at P1
    go_enter Tryz.func70, Tryz.ntmps70
    go_wp2_with (first
      | (go_at_call 135; (refine (one_wr B b l0 m32 (by have := HM.out; omega) w _ H.out (by have := HL.out; omega)).mono ?_; rintro e_ w1 ⟨rfl, h1, h2, h3⟩; have H1 := Lib.hid h1; have H2 := Lib.hid h2; have HX := Lib.hid h3; have x3 := (blk_cell h3 3).trans (rfl : _ = some (Value.int .i64 (i))); have x4 := (blk_cell h3 4).trans (rfl : _ = some (Value.int .i64 (n))); clear h1 h2 h3))
      | (go_at_call 76; (with_reducible refine (encVarI_any B b (i) _ w1 H1.out (by have := HL.out; simp only [List.length_append, List.length_singleton]; omega)).mono ?_); rintro e_ w2 ⟨rfl, h1, h2, h3⟩; have H3 := Lib.hid h1; have H4 := Lib.hid (H2.out.trans h2); have hx := kept100 h3 HX.out (by have := H.out.lt; omega); have x4 := (blk_cell hx 4).trans (rfl : _ = some (Value.int .i64 (n))); clear h1 h2 h3 hx)
      | (go_at_call 76; (with_reducible refine (encVarI_any B b (n) _ w2 H3.out (by have := HL.out; have := Lib.uvarint_length64 (u64of_lt (i)); simp only [List.length_append, List.length_singleton]; omega)).mono ?_); rintro e_ w3 ⟨rfl, h1, h2, _⟩; have H5 := Lib.hid h1; have H6 := Lib.hid (H4.out.trans h2); clear h1 h2))
    go_ret
    exact ⟨rfl, by have h := H5.out; rw [List.append_assoc, List.append_assoc] at h; exact h, H6.out⟩)
end Go.Proofs.YtgdbeiadlgkedaaGreatDoor
set_option linter.unusedVariables false
set_option linter.unusedSimpArgs false
namespace Go.Proofs.YtgdbeiadlgkedaaGreatDoor
open Go.RowKit Go.Proofs.YtgdbeiadlgkedaaGreatDoorW.PrintWords Go.Proofs.YtgdbeiadlgkedaaGreatDoorW.PrintLast Go.Proofs.YtgdbeiadlgkedaaGreatDoorW.PrintMore
set_option maxHeartbeats 2000000 in
set_option maxRecDepth 100000 in
theorem encPane_c2 (B b : Nat) (t : Nat) (ht : t < 4) (f l : Bool) (i n : Int) (ht3 : t ≠ 3) (ht0 : t ≠ 0) (hi : i = 0) (hn : n ≠ 0) (l0 : List UInt8) (w : World) (h : Bf B b l0 w) (hlim : l0.length + 100 ≤ 140737488355328) :
    Calls Tryz.prog 70 #[.agg #[.int .u8 t, .bool f, .bool l, .int .i64 i, .int .i64 n], bfI b] w fun e w' => e = .returned .nilIface ∧ Bf B b (l0 ++ ((phead t f l + 32).toUInt8 :: (Lib.uvarint (u64of i) ++ Lib.uvarint (u64of n)))) w' ∧ Below B w w' := by
  have H := Lib.hid h
  have HL := Lib.hid hlim
  have P1 := hd_enc ⟨t, ht⟩ f l
  have O16 := or16 ⟨phead t f l, phead_lt ht f l⟩
  have O32 := or32 ⟨phead t f l, phead_lt ht f l⟩
  have hp := phead_lt ht f l
  simp only at P1 O16 O32
  generalize phead t f l = ph at P1 O16 O32 hp ⊢
  obtain ⟨m16, h16⟩ : ∃ m, ph + 16 = m := ⟨_, rfl⟩
  obtain ⟨m32, h32⟩ : ∃ m, ph + 32 = m := ⟨_, rfl⟩
  rw [h16] at O16
  rw [h32] at O32
  try rw [h16]
  try rw [h32]
  have HM := Lib.hid (And.intro hp (And.intro h16 h32))
  clear h hlim hp h16 h32
  have k3 : ((t : Int) == 3) = false := beq_eq_false_iff_ne.2 (by omega)
  have k0 : ((t : Int) == 0) = false := beq_eq_false_iff_ne.2 (by omega)
  subst hi
  have qn : (n == 0) = false := beq_eq_false_iff_ne.2 (hn)
  have qin : ((0 : Int) == n) = false := beq_eq_false_iff_ne.2 (fun e => hn e.symm)
  clear hn ht3 ht0
  cases f <;> cases l <;> (
    simp only [Bool.false_eq_true, if_false, if_true] at P1
    go_enter Tryz.func70, Tryz.ntmps70
    go_wp2_with (first
      | (go_at_call 135; (refine (one_wr B b l0 m32 (by have := HM.out; omega) w _ H.out (by have := HL.out; omega)).mono ?_; rintro e_ w1 ⟨rfl, h1, h2, h3⟩; have H1 := Lib.hid h1; have H2 := Lib.hid h2; have HX := Lib.hid h3; have x3 := (blk_cell h3 3).trans (rfl : _ = some (Value.int .i64 (0))); have x4 := (blk_cell h3 4).trans (rfl : _ = some (Value.int .i64 (n))); clear h1 h2 h3))
      | (go_at_call 76; (with_reducible refine (encVarI_any B b (0) _ w1 H1.out (by have := HL.out; simp only [List.length_append, List.length_singleton]; omega)).mono ?_); rintro e_ w2 ⟨rfl, h1, h2, h3⟩; have H3 := Lib.hid h1; have H4 := Lib.hid (H2.out.trans h2); have hx := kept100 h3 HX.out (by have := H.out.lt; omega); have x4 := (blk_cell hx 4).trans (rfl : _ = some (Value.int .i64 (n))); clear h1 h2 h3 hx)
      | (go_at_call 76; (with_reducible refine (encVarI_any B b (n) _ w2 H3.out (by have := HL.out; have := Lib.uvarint_length64 (u64of_lt (0)); simp only [List.length_append, List.length_singleton]; omega)).mono ?_); rintro e_ w3 ⟨rfl, h1, h2, _⟩; have H5 := Lib.hid h1; have H6 := Lib.hid (H4.out.trans h2); clear h1 h2))
    go_ret
    exact ⟨rfl, by have h := H5.out; rw [List.append_assoc, List.append_assoc] at h; exact h, H6.out⟩)
end Go.Proofs.YtgdbeiadlgkedaaGreatDoor
set_option linter.unusedVariables false
set_option linter.unusedSimpArgs false
namespace Go.Proofs.YtgdbeiadlgkedaaGreatDoor
open Go.RowKit Go.Proofs.YtgdbeiadlgkedaaGreatDoorW.PrintWords Go.Proofs.YtgdbeiadlgkedaaGreatDoorW.PrintLast Go.Proofs.YtgdbeiadlgkedaaGreatDoorW.PrintMore
theorem encPane_ok (B b : Nat) (t : Nat) (ht : t < 4) (f l : Bool) (i n : Int) (hok : t = 0 → n = -1 ∨ (i = 0 ∧ n = 0)) (l0 : List UInt8) (w : World) (h : Bf B b l0 w) (hlim : l0.length + 100 ≤ 140737488355328) :
    Calls Tryz.prog 70 #[.agg #[.int .u8 t, .bool f, .bool l, .int .i64 i, .int .i64 n], bfI b] w fun e w' => e = .returned .nilIface ∧ Bf B b (l0 ++ pbytes t f l i n) w' ∧ Below B w w' := by
  unfold pbytes
  by_cases c1 : (i = 0 ∧ n = 0) ∨ t = 3
  · rw [if_pos c1]
    by_cases hi : i = 0
    · by_cases hn : n = 0
      · exact encPane_a1 B b t ht f l i n hi hn l0 w h hlim
      · exact encPane_a3 B b t ht f l i n (by omega) hi hn l0 w h hlim
    · exact encPane_a2 B b t ht f l i n (by omega) hi l0 w h hlim
  · rw [if_neg c1]
    by_cases c2 : i = n ∨ t = 0
    · rw [if_pos c2]
      by_cases t0 : t = 0
      · have hn : n = -1 := by have := hok t0; omega
        by_cases hi : i = 0
        · exact encPane_b3 B b t ht f l i n t0 hi hn l0 w h hlim
        · by_cases hi1 : i = -1
          · exact encPane_b4 B b t ht f l i n t0 hi1 hn l0 w h hlim
          · exact encPane_b2 B b t ht f l i n t0 hi hi1 hn l0 w h hlim
      · exact encPane_b1 B b t ht f l i n (by omega) t0 (by omega) (by omega) l0 w h hlim
    · rw [if_neg c2]
      by_cases hi : i = 0
      · exact encPane_c2 B b t ht f l i n (by omega) (by omega) hi (by omega) l0 w h hlim
      · exact encPane_c1 B b t ht f l i n (by omega) (by omega) hi (by omega) l0 w h hlim
set_option maxHeartbeats 4000000 in
set_option maxRecDepth 100000 in
theorem pane_any (t : Nat) (f l : Bool) (i n : Int) (ht : t < 4) (w : World) :
    Calls Tryz.prog 53 #[.agg #[.int .i64 t, .bool f, .bool l, .int .i64 i, .int .i64 n]] w fun e w' => e = .returned (.agg #[.int .u8 t, .bool f, .bool l, .int .i64 i, .int .i64 n]) ∧ Below w.heap.size w w' := by
  have q1 : (t : Int) % 256 = (t : Int) := by omega
  go_enter Tryz.func53, Tryz.ntmps53
  go_wp2
  go_returns
  exact ⟨rfl, by repeat (first | exact Below.refl _ _ | apply below_alloc | apply below_drew | refine below_set ?_ (by simp) | (refine Below.setCell ?_ (by simp) _))⟩
end Go.Proofs.YtgdbeiadlgkedaaGreatDoor
set_option linter.unusedVariables false
set_option linter.unusedSimpArgs false
namespace Go.Proofs.YtgdbeiadlgkedaaGreatDoor
open Go.RowKit PFnWindowOne Go.Proofs.YtgdbeiadlgkedaaGreatDoorW.PrintWords
theorem mthG_1 (a : Nat) : ∀ W : World, (nilAhead 83 189 (.pointer (some ⟨a, 0, none⟩)) "Encode").run Tryz.prog W = .ok (some false) W := fun _ => by kernel_rfl
theorem mthG_0 (a : Nat) : ∀ W : World, (nilAhead 83 186 (.pointer (some ⟨a, 0, none⟩)) "Encode").run Tryz.prog W = .ok (some false) W := fun _ => by kernel_rfl
def wsB (b : Bool) (l : List S23) : List UInt8 := if b then Lib.beBytes 4 l.length ++ winsB l else [0, 0, 0, 1]
theorem wsB_len (b : Bool) (l : List S23) (h : l.length ≤ 20) : (wsB b l).length ≤ 364 := by
  unfold wsB
  cases b
  · show ([0, 0, 0, 1] : List UInt8).length ≤ 364; decide
  · have := winsB_len l
    simp only [if_true]
    rw [List.length_append, Lib.beBytes_length]; omega
set_option maxHeartbeats 8000000 in
set_option maxRecDepth 100000 in
theorem encHead_1 (B b base a : Nat) (l : List S23) (hok : ∀ x ∈ l, okS (toS x)) (hl : l.length ≤ 20) (A : Option Addr) (c : Nat) (tm : Int) (htm : -9223372036854775808 ≤ tm ∧ tm ≤ 9223372036854775807) (t : Nat) (ht : t < 4) (f ll : Bool) (i n : Int) (hp : t = 0 → n = -1 ∨ (i = 0 ∧ n = 0)) (w : World) (h : Bf B b [] w) (hB : B ≤ w.heap.size) (hb : b < base) (hR : Kd.R kIf 88 w base (fun _ => True) (.slice A l.length c) l) :
    Calls Tryz.prog 52 #[.iface 189 (.pointer (some ⟨a, 0, none⟩)), .slice A l.length c, .int .i64 tm, .agg #[.int .u8 t, .bool f, .bool ll, .int .i64 i, .int .i64 n], bfI b] w fun x w' => x = .returned .nilIface ∧ Bf B b (Lib.beBytes 8 (tm + 9223372036854775808).toNat ++ wsB true l ++ pbytes t f ll i n) w' ∧ Below B w w' := by
  have hF : Bf B b [] (w.alloc (.cells #[.int .u8 t, .bool f, .bool ll, .int .i64 i, .int .i64 n] 119)) := h.old ((Below.refl w.heap.size w).alloc (Nat.le_refl _) _)
  have HT := Lib.hid (encTime_k B b tm [] _ htm.1 htm.2 hF (by decide))
  have HX := Lib.hid (heap_alloc_new w (.cells #[.int .u8 t, .bool f, .bool ll, .int .i64 i, .int .i64 n] 119))
  have HBA := Lib.hid ((Below.refl B w).alloc hB (.cells #[.int .u8 t, .bool f, .bool ll, .int .i64 i, .int .i64 n] 119))
  have HRA := Lib.hid (show Kd.R kIf 88 (w.alloc (.cells #[.int .u8 t, .bool f, .bool ll, .int .i64 i, .int .i64 n] 119)) base (fun _ => True) (.slice A l.length c) l from Kd.R_alloc hR _)
  have HNE := Lib.hid (show some w.heap.size ≠ some b by have := h.lt; intro e; cases e; omega)
  have HK := Lib.hid (And.intro hB (And.intro hb (And.intro ht (And.intro hok (And.intro hl hp)))))
  have na := mthG_1
  clear hok hl htm ht hp h hB hb hR hF
  go_enter Tryz.func52, Tryz.ntmps52
  go_wp2_with (first
    | (go_at_call 68; go_loud (refine HT.out.mono ?_; rintro e_ w1 ⟨rfl, h1, h2, h3⟩; have H1 := Lib.hid (And.intro h1 (And.intro h2 h3)); have HX1 := Lib.hid (h3 w.heap.size _ HX.out HNE.out (by intro c fz hc; cases hc)); have HR1 := Lib.hid (R_others HRA.out h3 HK.out.2.1); clear h1 h2 h3))
    | (go_at_call 148; go_loud (refine (encAll_1 B b base (some ⟨a, 0, none⟩) l HK.out.2.2.2.1 HK.out.2.2.2.2.1 A c _ w1 H1.out.1 (Nat.le_trans HK.out.1 (Nat.le_trans (by rw [World.size_alloc]; omega) H1.out.2.1.size)) HK.out.2.1 HR1.out (by rw [List.nil_append, Lib.beBytes_length]; decide)).mono ?_; rintro e_ w2 ⟨rfl, h1, h2, h3⟩; have H2 := Lib.hid (And.intro h1 ((HBA.out.trans H1.out.2.1).trans h2)); have HX2 := Lib.hid (h3 w.heap.size _ HX1.out HNE.out (by intro c fz hc; cases hc)); have c0 : w2.cell? ⟨w.heap.size, 0, none⟩ = some (.int .u8 t) := (blk_cell HX2.out 0).trans rfl; have c1 : w2.cell? ⟨w.heap.size, 1, none⟩ = some (.bool f) := (blk_cell HX2.out 1).trans rfl; have c2 : w2.cell? ⟨w.heap.size, 2, none⟩ = some (.bool ll) := (blk_cell HX2.out 2).trans rfl; have c3 : w2.cell? ⟨w.heap.size, 3, none⟩ = some (.int .i64 i) := (blk_cell HX2.out 3).trans rfl; have c4 : w2.cell? ⟨w.heap.size, 4, none⟩ = some (.int .i64 n) := (blk_cell HX2.out 4).trans rfl; clear h1 h2 h3))
    | (go_at_call 70; go_loud (refine (encPane_ok B b t HK.out.2.2.1 f ll i n HK.out.2.2.2.2.2 _ w2 H2.out.1 ?lim).mono ?_; (case lim => have hq := wsB_len true l HK.out.2.2.2.2.1; unfold wsB at hq; simp only [List.length_append, List.nil_append, Lib.beBytes_length, if_true, List.length_cons, List.length_nil] at hq ⊢; omega); rintro e_ w3 ⟨rfl, h1, h2⟩; have H3 := Lib.hid (And.intro h1 (H2.out.2.trans h2)); clear h1 h2)))
  go_ret
  refine ⟨rfl, ?_, H3.out.2⟩
  have := H3.out.1
  simp only [List.nil_append] at this
  unfold wsB
  simp only [if_true, Bool.false_eq_true, if_false, List.append_assoc] at this ⊢
  exact this
set_option maxHeartbeats 8000000 in
set_option maxRecDepth 100000 in
theorem encHead_0 (B b base a : Nat) (l : List S23) (hok : ∀ x ∈ l, okS (toS x)) (hl : l.length ≤ 20) (A : Option Addr) (c : Nat) (tm : Int) (htm : -9223372036854775808 ≤ tm ∧ tm ≤ 9223372036854775807) (t : Nat) (ht : t < 4) (f ll : Bool) (i n : Int) (hp : t = 0 → n = -1 ∨ (i = 0 ∧ n = 0)) (w : World) (h : Bf B b [] w) (hB : B ≤ w.heap.size) (hb : b < base) (hR : Kd.R kIf 88 w base (fun _ => True) (.slice A l.length c) l) :
    Calls Tryz.prog 52 #[.iface 186 (.pointer (some ⟨a, 0, none⟩)), .slice A l.length c, .int .i64 tm, .agg #[.int .u8 t, .bool f, .bool ll, .int .i64 i, .int .i64 n], bfI b] w fun x w' => x = .returned .nilIface ∧ Bf B b (Lib.beBytes 8 (tm + 9223372036854775808).toNat ++ wsB false l ++ pbytes t f ll i n) w' ∧ Below B w w' := by
  have hF : Bf B b [] (w.alloc (.cells #[.int .u8 t, .bool f, .bool ll, .int .i64 i, .int .i64 n] 119)) := h.old ((Below.refl w.heap.size w).alloc (Nat.le_refl _) _)
  have HT := Lib.hid (encTime_k B b tm [] _ htm.1 htm.2 hF (by decide))
  have HX := Lib.hid (heap_alloc_new w (.cells #[.int .u8 t, .bool f, .bool ll, .int .i64 i, .int .i64 n] 119))
  have HBA := Lib.hid ((Below.refl B w).alloc hB (.cells #[.int .u8 t, .bool f, .bool ll, .int .i64 i, .int .i64 n] 119))
  have HRA := Lib.hid (show Kd.R kIf 88 (w.alloc (.cells #[.int .u8 t, .bool f, .bool ll, .int .i64 i, .int .i64 n] 119)) base (fun _ => True) (.slice A l.length c) l from Kd.R_alloc hR _)
  have HNE := Lib.hid (show some w.heap.size ≠ some b by have := h.lt; intro e; cases e; omega)
  have HK := Lib.hid (And.intro hB (And.intro hb (And.intro ht (And.intro hok (And.intro hl hp)))))
  have na := mthG_0
  clear hok hl htm ht hp h hB hb hR hF
  go_enter Tryz.func52, Tryz.ntmps52
  go_wp2_with (first
    | (go_at_call 68; go_loud (refine HT.out.mono ?_; rintro e_ w1 ⟨rfl, h1, h2, h3⟩; have H1 := Lib.hid (And.intro h1 (And.intro h2 h3)); have HX1 := Lib.hid (h3 w.heap.size _ HX.out HNE.out (by intro c fz hc; cases hc)); have HR1 := Lib.hid (R_others HRA.out h3 HK.out.2.1); clear h1 h2 h3))
    | (go_at_call 146; go_loud (refine (encAll_0 B b (some ⟨a, 0, none⟩) _ _ w1 H1.out.1 (by rw [List.nil_append, Lib.beBytes_length]; decide)).mono ?_; rintro e_ w2 ⟨rfl, h1, h2, h3⟩; have H2 := Lib.hid (And.intro h1 ((HBA.out.trans H1.out.2.1).trans h2)); have HX2 := Lib.hid (h3 w.heap.size _ HX1.out HNE.out (by intro c fz hc; cases hc)); have c0 : w2.cell? ⟨w.heap.size, 0, none⟩ = some (.int .u8 t) := (blk_cell HX2.out 0).trans rfl; have c1 : w2.cell? ⟨w.heap.size, 1, none⟩ = some (.bool f) := (blk_cell HX2.out 1).trans rfl; have c2 : w2.cell? ⟨w.heap.size, 2, none⟩ = some (.bool ll) := (blk_cell HX2.out 2).trans rfl; have c3 : w2.cell? ⟨w.heap.size, 3, none⟩ = some (.int .i64 i) := (blk_cell HX2.out 3).trans rfl; have c4 : w2.cell? ⟨w.heap.size, 4, none⟩ = some (.int .i64 n) := (blk_cell HX2.out 4).trans rfl; clear h1 h2 h3))
    | (go_at_call 70; go_loud (refine (encPane_ok B b t HK.out.2.2.1 f ll i n HK.out.2.2.2.2.2 _ w2 H2.out.1 ?lim).mono ?_; (case lim => have hq := wsB_len false l HK.out.2.2.2.2.1; unfold wsB at hq; simp only [List.length_append, List.nil_append, Lib.beBytes_length, if_true, Bool.false_eq_true, if_false, List.length_cons, List.length_nil] at hq ⊢; omega); rintro e_ w3 ⟨rfl, h1, h2⟩; have H3 := Lib.hid (And.intro h1 (H2.out.2.trans h2)); clear h1 h2)))
  go_ret
  refine ⟨rfl, ?_, H3.out.2⟩
  have := H3.out.1
  simp only [List.nil_append] at this
  unfold wsB
  simp only [if_true, Bool.false_eq_true, if_false, List.append_assoc] at this ⊢
  exact this
end Go.Proofs.YtgdbeiadlgkedaaGreatDoor
