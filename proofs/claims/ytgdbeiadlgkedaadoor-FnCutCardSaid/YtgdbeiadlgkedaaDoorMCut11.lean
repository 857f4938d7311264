/- Contracts and plain laws, several texts in one. -/
import Derived.Test.YtgdbeiadlgkedaaDoorMCut1
import Derived.Test.YtgdbeiadlgkedaaDoorMCut8
import Derived.Test.YtgdbeiadlgkedaaDoorMCut9
import Derived.Test.YtgdbeiadlgkedaaDoorMCut10
import Derived.Lib.Varint
import Derived.Deep.RegionHeld3
set_option linter.unusedVariables false
set_option linter.unusedSimpArgs false
namespace Go.Proofs.YtgdbeiadlgkedaaDoor
open Go.RowKit PFnPaneEarly
theorem or128b : ∀ d : Fin 256, Go.bits .or .u8 ((d : Nat) : Int) 128 = (((d : Nat) % 128 + 128 : Nat) : Int) := by decide +kernel
theorem sn_one (m : Nat) : strOfNums [((m : Nat) : Int)] = ⟨#[m.toUInt8]⟩ := by simp [strOfNums]
theorem le1 (s : ByteArray) (x : UInt8) (h : s.size + 1 ≤ 1000) : s.size + (⟨#[x]⟩ : ByteArray).size ≤ 9223372036854775807 := Nat.le_trans h (by decide)
theorem varint_l0 : ∀ (n v : Nat) (s : ByteArray), v ≤ n → s.size + (Lib.uvarint v).length ≤ 1000 → ∃ k, spec_CodVarint.l0 k (v : Int) s = some (s ++ ⟨(Lib.uvarint v).toArray⟩) := by
  intro n
  induction n with
  | zero =>
    intro v s hv hs
    obtain rfl : v = 0 := by omega
    refine ⟨1, ?_⟩
    rw [Lib.uvarint_small (by decide)] at hs ⊢
    rw [spec_CodVarint.l0, if_neg (by omega)]
    simp only [Option.bind_some]
    rw [show (((0 : Nat) : Int) % 256) = ((0 : Nat) : Int) by decide, sn_one]
    rw [if_pos (le1 s _ (show s.size + 1 ≤ 1000 from hs))]
  | succ n ih =>
    intro v s hv hs
    by_cases h : v < 128
    · refine ⟨1, ?_⟩
      rw [Lib.uvarint_small h] at hs ⊢
      rw [spec_CodVarint.l0, if_neg (by omega)]
      simp only [Option.bind_some]
      rw [show ((v : Int) % 256) = ((v : Nat) : Int) by omega, sn_one]
      rw [if_pos (le1 s _ (show s.size + 1 ≤ 1000 from hs))]
    · rw [Lib.uvarint_big (by omega)] at hs ⊢
      obtain ⟨k, hk⟩ := ih (v / 128) (s ++ ⟨#[(v % 128 + 128).toUInt8]⟩) (by omega) (by rw [List.length_cons] at hs; rw [ByteArray.size_append]; show s.size + 1 + _ ≤ 1000; omega)
      refine ⟨k + 1, ?_⟩
      rw [spec_CodVarint.l0, if_pos (by omega)]
      simp only [Option.bind_some]
      have e : ((v : Int) % 256) = (((⟨v % 256, by omega⟩ : Fin 256) : Nat) : Int) := by simp
      rw [e, or128b, show ((⟨v % 256, by omega⟩ : Fin 256) : Nat) % 128 + 128 = v % 128 + 128 by simp only; omega, sn_one]
      rw [if_pos (le1 s _ (show s.size + 1 ≤ 1000 by rw [List.length_cons] at hs; omega)), show ((v : Int) / 128) = ((v / 128 : Nat) : Int) by omega, hk]
      congr 1
      apply ByteArray.ext
      simp
theorem varint_some (v : Nat) (hv : v < 18446744073709551616) : ∃ k, spec_CodVarint.f k (v : Int) = some ⟨(Lib.uvarint v).toArray⟩ := by
  obtain ⟨k, hk⟩ := varint_l0 v v ⟨#[]⟩ (Nat.le_refl _) (by have := Lib.uvarint_length64 hv; simp [ByteArray.size]; omega)
  refine ⟨k, ?_⟩
  rw [spec_CodVarint.f, hk]
  congr 1
theorem varint_up (y : Int) (r : ByteArray) : ∀ d k, spec_CodVarint.f k y = some r → spec_CodVarint.f (k + d) y = some r
  | 0, _, h => h
  | d + 1, k, h => spec_CodVarint.mono y (k + d) r (varint_up y r d k h)
def phead (t : Nat) (f l : Bool) : Nat := t * 4 + (if f then 1 else 0) + (if l then 2 else 0)
theorem phead_lt {t : Nat} (h : t < 4) (f l : Bool) : phead t f l < 16 := by unfold phead; split <;> split <;> omega
theorem hd_spec : ∀ (t : Fin 4) (f l : Bool), (if l then Go.bits .or .u8 (if f then Go.bits .or .u8 ((wrap64 (((t : Nat) : Int) * 4)) % 256) 1 else (wrap64 (((t : Nat) : Int) * 4)) % 256) 2 else (if f then Go.bits .or .u8 ((wrap64 (((t : Nat) : Int) * 4)) % 256) 1 else (wrap64 (((t : Nat) : Int) * 4)) % 256)) = (phead t f l : Int) := by decide +kernel
theorem or16 : ∀ (h : Fin 16), Go.bits .or .u8 ((h : Nat) : Int) 16 = (((h : Nat) + 16 : Nat) : Int) := by decide +kernel
theorem or32 : ∀ (h : Fin 16), Go.bits .or .u8 ((h : Nat) : Int) 32 = (((h : Nat) + 32 : Nat) : Int) := by decide +kernel
def u64n (t : Int) : Nat := (t % 18446744073709551616).toNat
theorem u64n_lt (t : Int) : u64n t < 18446744073709551616 := by unfold u64n; omega
theorem u64n_wrap (t : Int) : IntKind.u64.wrap t = (u64n t : Int) := by
  unfold u64n
  simp [IntKind.wrap, IntKind.bits, IntKind.signed]
  omega
def pbytes (t : Nat) (f l : Bool) (i n : Int) : List UInt8 :=
  if (i = 0 ∧ n = 0) ∨ t = 3 then [(phead t f l).toUInt8]
  else if i = n ∨ t = 0 then (phead t f l + 16).toUInt8 :: Lib.uvarint (u64n i)
  else (phead t f l + 32).toUInt8 :: (Lib.uvarint (u64n i) ++ Lib.uvarint (u64n n))
theorem paned_some (t : Nat) (ht : t < 4) (f l : Bool) (i n : Int) : ∃ k, spec_CodPaned.f k (t : Int) f l i n = some ⟨(pbytes t f l i n).toArray⟩ := by
  obtain ⟨k1, h1⟩ := varint_some (u64n i) (u64n_lt i)
  obtain ⟨k2, h2⟩ := varint_some (u64n n) (u64n_lt n)
  have l1 := Lib.uvarint_length64 (u64n_lt i)
  have l2 := Lib.uvarint_length64 (u64n_lt n)
  have hh := hd_spec ⟨t, ht⟩ f l
  simp only at hh
  have hp := phead_lt ht f l
  have o16 := or16 ⟨phead t f l, hp⟩
  have o32 := or32 ⟨phead t f l, hp⟩
  simp only at o16 o32
  refine ⟨k1 + k2 + 4, ?_⟩
  have v1 := varint_up _ _ k2 k1 h1
  have v2 := varint_up _ _ k1 k2 h2
  rw [show k2 + k1 = k1 + k2 by omega] at v2
  have e0 : spec_CodPaned.f (k1 + k2 + 4) (t : Int) f l i n = spec_CodPaned.j1 (k1 + k2 + 3) (phead t f l : Int) (t : Int) f l i n := by
    rw [← hh, spec_CodPaned.f]
    cases f
    · rw [if_neg (by simp), spec_CodPaned.j0]
      cases l
      · rw [if_neg (by simp)]; simp only [Bool.false_eq_true, if_false]
      · rw [if_pos rfl]; simp only [Bool.false_eq_true, if_false, if_true]
    · rw [if_pos rfl, spec_CodPaned.j0]
      cases l
      · rw [if_neg (by simp)]; simp only [Bool.false_eq_true, if_false, if_true]
      · rw [if_pos rfl]; simp only [if_true]
  rw [e0]
  have e3 : ((t : Int) == 3) = decide (t = 3) := by
    rw [Bool.eq_iff_iff]; simp; omega
  have e1 : spec_CodPaned.j1 (k1 + k2 + 3) (phead t f l : Int) (t : Int) f l i n = spec_CodPaned.j2 (k1 + k2 + 2) (phead t f l : Int) (decide ((i = 0 ∧ n = 0) ∨ t = 3)) (t : Int) f l i n := by
    rw [spec_CodPaned.j1, e3]
    by_cases hi : i = 0
    · by_cases hn : n = 0
      · simp [hi, hn]
      · simp [hi, hn]
    · simp [hi]
  rw [e1, spec_CodPaned.j2]
  unfold pbytes
  by_cases c1 : (i = 0 ∧ n = 0) ∨ t = 3
  · rw [if_pos (by simpa using c1), if_pos c1, sn_one]
  · rw [if_neg (by simpa using c1), if_neg c1]
    have e4 : (if i = n then spec_CodPaned.j3 (k1 + k2 + 1) (phead t f l : Int) true (t : Int) f l i n else spec_CodPaned.j3 (k1 + k2 + 1) (phead t f l : Int) ((t : Int) == 0) (t : Int) f l i n) = spec_CodPaned.j3 (k1 + k2 + 1) (phead t f l : Int) (decide (i = n ∨ t = 0)) (t : Int) f l i n := by
      by_cases c2 : i = n
      · simp [c2]
      · rw [if_neg c2, show ((t : Int) == 0) = decide (i = n ∨ t = 0) by rw [Bool.eq_iff_iff]; simp [c2]]
    rw [e4, spec_CodPaned.j3]
    by_cases c3 : i = n ∨ t = 0
    · rw [if_pos (by simpa using c3), if_pos c3]
      simp only [Option.bind_some]
      rw [o16, sn_one, u64n_wrap, v1]
      simp only [Option.bind_some]
      rw [if_pos (by simp [ByteArray.size]; omega)]
      congr 1
    · rw [if_neg (by simpa using c3), if_neg c3]
      simp only [Option.bind_some]
      rw [o32, sn_one, u64n_wrap, u64n_wrap, v1]
      simp only [Option.bind_some]
      rw [if_pos (by simp [ByteArray.size]; omega), v2]
      simp only [Option.bind_some]
      rw [if_pos (by simp [ByteArray.size]; omega)]
      congr 1
end Go.Proofs.YtgdbeiadlgkedaaDoor
set_option linter.unusedVariables false
set_option linter.unusedSimpArgs false
namespace Go.Proofs.YtgdbeiadlgkedaaDoor
open Go.RowKit Go.Proofs.YtgdbeiadlgkedaaDoorW.PrintWords Go.Proofs.YtgdbeiadlgkedaaDoorW.PrintLast Go.Proofs.YtgdbeiadlgkedaaDoorW.PrintMore
def SB (t : ByteArray) (w : World) (o : Obj) (w' : World) : Prop := w'.cell? ⟨w.heap.size, 5, none⟩ = some (.string t) ∧ w'.heap[w.heap.size]? = some o ∧ Below w.heap.size w w'
theorem SB.start (t : ByteArray) (w : World) (cs : Array Value) (h : cs[5]? = some (.string t)) : SB t w (.cells cs 37) (w.alloc (.cells cs 37)).drew :=
  ⟨(blk_cell (heap_alloc_new w (.cells cs 37)) 5).trans h, heap_alloc_new w (.cells cs 37), below_drew (below_alloc (Below.refl _ w) _)⟩
theorem SB.step {t : ByteArray} {w x y : World} {o : Obj} (h : SB t w o x) (hb : Below x.heap.size x y) : SB t w o y := by
  obtain ⟨h1, h2, h3⟩ := h
  have hl := blk_lt h2
  exact ⟨(hb.cell (p := ⟨w.heap.size, 5, none⟩) hl).trans h1, (hb.block _ hl).trans h2, below_then h3 h3.size hb⟩
theorem SB.both {t : ByteArray} {w x : World} {o : Obj} (h : SB t w o x) : x.cell? ⟨w.heap.size, 5, none⟩ = some (.string t) ∧ Aside0 (SB t w o x) := ⟨h.1, ⟨h⟩⟩
theorem SB.both2 {t : ByteArray} {w x y : World} {o : Obj} (h : x.cell? ⟨w.heap.size, 5, none⟩ = some (.string t) ∧ Aside0 (SB t w o x)) (hb : Below x.heap.size x y) : y.cell? ⟨w.heap.size, 5, none⟩ = some (.string t) ∧ Aside0 (SB t w o y) := (SB.step h.2.out hb).both
theorem str_ext0 {s : ByteArray} {l : List UInt8} (h : s.data.toList = l) : s = ⟨l.toArray⟩ := by
  cases s with
  | mk d => simp only at h; subst h; simp
theorem add_strE (s t : ByteArray) (h1 : s.size ≤ 10) (h2 : t.size ≤ 1000000) : ∀ W : World, (Op.stringOp .add s t).run Tryd.prog W = .ok (.string (s ++ t)) W := by
  intro W
  simp [Op.stringOp]
  omega
theorem be1 (x : Nat) : Lib.beBytes 1 x = [(x % 256).toUInt8] := rfl
theorem spec_le {w w1 : World} {o : Obj} (h : Below (w.alloc o).heap.size (w.alloc o) w1) : Below w.heap.size w w1 := below_then (below_alloc (Below.refl w.heap.size w) o) (by simp) h
theorem xor_sign (n : Int) (h0 : -9223372036854775808 ≤ n) (h1 : n ≤ 9223372036854775807) : Go.bits .xor .u64 (u64of n : Int) 9223372036854775808 = ((n + 9223372036854775808).toNat : Int) := by
  have hl := u64of_lt n
  have h := bits_xor_u64_nat (u64of n) 9223372036854775808 hl (by decide)
  have e : ((9223372036854775808 : Nat) : Int) = 9223372036854775808 := rfl
  rw [e] at h
  rw [h]
  have hm : (u64of n ^^^ 9223372036854775808) % 2 ^ 63 = u64of n % 2 ^ 63 := by rw [Nat.xor_mod_two_pow]; simp
  have hd : (u64of n ^^^ 9223372036854775808) / 2 ^ 63 = (u64of n / 2 ^ 63) ^^^ 1 := by rw [Nat.xor_div_two_pow]
  have e2 : (2 : Nat) ^ 63 = 9223372036854775808 := by decide
  rw [e2] at hm hd
  have hx : u64of n = (n % 18446744073709551616).toNat := rfl
  rcases (show u64of n / 9223372036854775808 = 0 ∨ u64of n / 9223372036854775808 = 1 by omega) with hq | hq
  · rw [hq] at hd
    have : (0 : Nat) ^^^ 1 = 1 := by decide
    rw [this] at hd
    omega
  · rw [hq] at hd
    have : (1 : Nat) ^^^ 1 = 0 := by decide
    rw [this] at hd
    omega
theorem varint_any (v : Nat) (w : World) (hv : v < 18446744073709551616) : Calls Tryd.prog 32 #[.int .u64 v] w fun e w' => e = .returned (.string ⟨(Lib.uvarint v).toArray⟩) ∧ Below w.heap.size w w' := by
  obtain ⟨k, hk⟩ := varint_some v hv
  exact PFnPaneEarly.spec_CodVarint.calls k _ _ w hk
theorem paned_any (t : Nat) (ht : t < 4) (f l : Bool) (i n : Int) (w : World) : Calls Tryd.prog 28 #[.agg #[.int .i64 t, .bool f, .bool l, .int .i64 i, .int .i64 n]] w fun e w' => e = .returned (.string ⟨(pbytes t f l i n).toArray⟩) ∧ Below w.heap.size w w' := by
  obtain ⟨k, hk⟩ := paned_some t ht f l i n
  exact PFnPaneEarly.spec_CodPaned.calls k _ _ _ _ _ _ w hk
theorem wrapU (n : Int) : IntKind.u64.wrap n = (u64of n : Int) := by unfold u64of; simp [IntKind.wrap, IntKind.bits, IntKind.signed]; omega
theorem modU (n : Int) : n % 18446744073709551616 = (u64of n : Int) := by unfold u64of; omega
set_option maxHeartbeats 4000000 in
set_option maxRecDepth 100000 in
theorem specEnc_0 (fl : Bool) (n u b : Int) (t : ByteArray) (pt : Int) (pf pl : Bool) (pi pn : Int) (w : World) :
    Calls Tryd.prog 24 #[.agg #[.int .i64 0, .bool fl, .int .i64 n, .int .u64 u, .int .u64 b, .string t, .int .i64 pt, .bool pf, .bool pl, .int .i64 pi, .int .i64 pn]] w fun e w' => e = .returned (.string ⟨([if fl then 1 else 0] : List UInt8).toArray⟩) ∧ Below w.heap.size w w' := by
  cases fl
  all_goals
    go_enter Tryd.func24, Tryd.ntmps24
    go_wp2
    go_ret
    exact ⟨rfl, below_alloc (Below.refl w.heap.size w) _⟩
set_option maxHeartbeats 4000000 in
set_option maxRecDepth 100000 in
theorem specEnc_1 (fl : Bool) (n u b : Int) (t : ByteArray) (pt : Int) (pf pl : Bool) (pi pn : Int) (w : World) :
    Calls Tryd.prog 24 #[.agg #[.int .i64 1, .bool fl, .int .i64 n, .int .u64 u, .int .u64 b, .string t, .int .i64 pt, .bool pf, .bool pl, .int .i64 pi, .int .i64 pn]] w fun e w' => e = .returned (.string ⟨([(n % 256).toNat.toUInt8]).toArray⟩) ∧ Below w.heap.size w w' := by
  obtain ⟨U, hU⟩ : ∃ U, U = u64of n := ⟨_, rfl⟩
  have hw := wrapU n
  have hm := modU n
  rw [← hU] at hw hm
  have hr : Lib.beBytes 1 (U % 256) = [(n % 256).toNat.toUInt8] := by rw [be1, hU]; congr 2; unfold u64of; omega
  have HC := Lib.hid (codBig1_any U (w.alloc (.cells #[.int .i64 1, .bool fl, .int .i64 n, .int .u64 u, .int .u64 b, .string t, .int .i64 pt, .bool pf, .bool pl, .int .i64 pi, .int .i64 pn] 37)))
  rw [hr] at HC
  clear hr hU
  go_enter Tryd.func24, Tryd.ntmps24
  go_wp2_with (go_at_call 65; go_loud (refine HC.out.mono ?_; rintro e_ w1 ⟨rfl, hb⟩; have HB := Lib.hid (spec_le hb); clear hb))
  go_ret
  exact ⟨rfl, HB.out⟩
set_option maxHeartbeats 4000000 in
set_option maxRecDepth 100000 in
theorem specEnc_3 (fl : Bool) (n u b : Int) (t : ByteArray) (pt : Int) (pf pl : Bool) (pi pn : Int) (h0 : 0 ≤ b) (w : World) :
    Calls Tryd.prog 24 #[.agg #[.int .i64 3, .bool fl, .int .i64 n, .int .u64 u, .int .u64 b, .string t, .int .i64 pt, .bool pf, .bool pl, .int .i64 pi, .int .i64 pn]] w fun e w' => e = .returned (.string ⟨(Lib.beBytes 8 b.toNat).toArray⟩) ∧ Below w.heap.size w w' := by
  obtain ⟨v, rfl⟩ := Int.eq_ofNat_of_zero_le h0
  rw [show ((v : Nat) : Int).toNat = v by omega]
  have HC := Lib.hid (codBig8_any v (w.alloc (.cells #[.int .i64 3, .bool fl, .int .i64 n, .int .u64 u, .int .u64 (v : Int), .string t, .int .i64 pt, .bool pf, .bool pl, .int .i64 pi, .int .i64 pn] 37)))
  clear h0
  go_enter Tryd.func24, Tryd.ntmps24
  go_wp2_with (go_at_call 65; go_loud (refine HC.out.mono ?_; rintro e_ w1 ⟨rfl, hb⟩; have HB := Lib.hid (spec_le hb); clear hb))
  go_ret
  exact ⟨rfl, HB.out⟩
set_option maxHeartbeats 4000000 in
set_option maxRecDepth 100000 in
theorem specEnc_7 (fl : Bool) (n u b : Int) (t : ByteArray) (pt : Int) (pf pl : Bool) (pi pn : Int) (h0 : 0 ≤ b) (w : World) :
    Calls Tryd.prog 24 #[.agg #[.int .i64 7, .bool fl, .int .i64 n, .int .u64 u, .int .u64 b, .string t, .int .i64 pt, .bool pf, .bool pl, .int .i64 pi, .int .i64 pn]] w fun e w' => e = .returned (.string ⟨(Lib.beBytes 4 (b % 4294967296).toNat).toArray⟩) ∧ Below w.heap.size w w' := by
  obtain ⟨v, rfl⟩ := Int.eq_ofNat_of_zero_le h0
  rw [show (((v : Nat) : Int) % 4294967296).toNat = v % 4294967296 by omega]
  have HC := Lib.hid (codBig4_any v (w.alloc (.cells #[.int .i64 7, .bool fl, .int .i64 n, .int .u64 u, .int .u64 (v : Int), .string t, .int .i64 pt, .bool pf, .bool pl, .int .i64 pi, .int .i64 pn] 37)))
  clear h0
  go_enter Tryd.func24, Tryd.ntmps24
  go_wp2_with (go_at_call 65; go_loud (refine HC.out.mono ?_; rintro e_ w1 ⟨rfl, hb⟩; have HB := Lib.hid (spec_le hb); clear hb))
  go_ret
  exact ⟨rfl, HB.out⟩
set_option maxHeartbeats 4000000 in
set_option maxRecDepth 100000 in
theorem specEnc_9 (fl : Bool) (n u b : Int) (t : ByteArray) (pt : Int) (pf pl : Bool) (pi pn : Int) (h0 : 0 ≤ u) (w : World) :
    Calls Tryd.prog 24 #[.agg #[.int .i64 9, .bool fl, .int .i64 n, .int .u64 u, .int .u64 b, .string t, .int .i64 pt, .bool pf, .bool pl, .int .i64 pi, .int .i64 pn]] w fun e w' => e = .returned (.string ⟨(Lib.beBytes 4 (u % 4294967296).toNat).toArray⟩) ∧ Below w.heap.size w w' := by
  obtain ⟨v, rfl⟩ := Int.eq_ofNat_of_zero_le h0
  rw [show (((v : Nat) : Int) % 4294967296).toNat = v % 4294967296 by omega]
  have HC := Lib.hid (codBig4_any v (w.alloc (.cells #[.int .i64 9, .bool fl, .int .i64 n, .int .u64 (v : Int), .int .u64 b, .string t, .int .i64 pt, .bool pf, .bool pl, .int .i64 pi, .int .i64 pn] 37)))
  clear h0
  go_enter Tryd.func24, Tryd.ntmps24
  go_wp2_with (go_at_call 65; go_loud (refine HC.out.mono ?_; rintro e_ w1 ⟨rfl, hb⟩; have HB := Lib.hid (spec_le hb); clear hb))
  go_ret
  exact ⟨rfl, HB.out⟩
set_option maxHeartbeats 4000000 in
set_option maxRecDepth 100000 in
theorem specEnc_10 (fl : Bool) (n u b : Int) (t : ByteArray) (pt : Int) (pf pl : Bool) (pi pn : Int) (h0 : 0 ≤ u) (w : World) :
    Calls Tryd.prog 24 #[.agg #[.int .i64 10, .bool fl, .int .i64 n, .int .u64 u, .int .u64 b, .string t, .int .i64 pt, .bool pf, .bool pl, .int .i64 pi, .int .i64 pn]] w fun e w' => e = .returned (.string ⟨(Lib.beBytes 8 u.toNat).toArray⟩) ∧ Below w.heap.size w w' := by
  obtain ⟨v, rfl⟩ := Int.eq_ofNat_of_zero_le h0
  rw [show ((v : Nat) : Int).toNat = v by omega]
  have HC := Lib.hid (codBig8_any v (w.alloc (.cells #[.int .i64 10, .bool fl, .int .i64 n, .int .u64 (v : Int), .int .u64 b, .string t, .int .i64 pt, .bool pf, .bool pl, .int .i64 pi, .int .i64 pn] 37)))
  clear h0
  go_enter Tryd.func24, Tryd.ntmps24
  go_wp2_with (go_at_call 65; go_loud (refine HC.out.mono ?_; rintro e_ w1 ⟨rfl, hb⟩; have HB := Lib.hid (spec_le hb); clear hb))
  go_ret
  exact ⟨rfl, HB.out⟩
set_option maxHeartbeats 4000000 in
set_option maxRecDepth 100000 in
theorem specEnc_12 (fl : Bool) (n u b : Int) (t : ByteArray) (pt : Int) (pf pl : Bool) (pi pn : Int) (h0 : 0 ≤ u) (h1 : u < 18446744073709551616) (w : World) :
    Calls Tryd.prog 24 #[.agg #[.int .i64 12, .bool fl, .int .i64 n, .int .u64 u, .int .u64 b, .string t, .int .i64 pt, .bool pf, .bool pl, .int .i64 pi, .int .i64 pn]] w fun e w' => e = .returned (.string ⟨(Lib.uvarint u.toNat).toArray⟩) ∧ Below w.heap.size w w' := by
  obtain ⟨v, rfl⟩ := Int.eq_ofNat_of_zero_le h0
  rw [show ((v : Nat) : Int).toNat = v by omega]
  have HC := Lib.hid (varint_any v (w.alloc (.cells #[.int .i64 12, .bool fl, .int .i64 n, .int .u64 (v : Int), .int .u64 b, .string t, .int .i64 pt, .bool pf, .bool pl, .int .i64 pi, .int .i64 pn] 37)) (by omega))
  clear h0 h1
  go_enter Tryd.func24, Tryd.ntmps24
  go_wp2_with (go_at_call 32; go_loud (refine HC.out.mono ?_; rintro e_ w1 ⟨rfl, hb⟩; have HB := Lib.hid (spec_le hb); clear hb))
  go_ret
  exact ⟨rfl, HB.out⟩
set_option maxHeartbeats 4000000 in
set_option maxRecDepth 100000 in
theorem specEnc_4 (fl : Bool) (n u b : Int) (t : ByteArray) (pt : Int) (pf pl : Bool) (pi pn : Int) (h0 : -9223372036854775808 ≤ n) (h1 : n ≤ 9223372036854775807) (w : World) :
    Calls Tryd.prog 24 #[.agg #[.int .i64 4, .bool fl, .int .i64 n, .int .u64 u, .int .u64 b, .string t, .int .i64 pt, .bool pf, .bool pl, .int .i64 pi, .int .i64 pn]] w fun e w' => e = .returned (.string ⟨(Lib.beBytes 8 (n + 9223372036854775808).toNat).toArray⟩) ∧ Below w.heap.size w w' := by
  obtain ⟨U, hU⟩ : ∃ U, U = u64of n := ⟨_, rfl⟩
  have hw := wrapU n
  have hm := modU n
  rw [← hU] at hw hm
  obtain ⟨V, hV⟩ : ∃ V, V = (n + 9223372036854775808).toNat := ⟨_, rfl⟩
  have hx := xor_sign n h0 h1
  rw [← hU, ← hV] at hx
  rw [← hV]
  clear h0 h1 hU hV
  have HC := Lib.hid (codBig8_any V (w.alloc (.cells #[.int .i64 4, .bool fl, .int .i64 n, .int .u64 u, .int .u64 b, .string t, .int .i64 pt, .bool pf, .bool pl, .int .i64 pi, .int .i64 pn] 37)))
  go_enter Tryd.func24, Tryd.ntmps24
  go_wp2_with (go_at_call 65; go_loud (refine HC.out.mono ?_; rintro e_ w1 ⟨rfl, hb⟩; have HB := Lib.hid (spec_le hb); clear hb))
  go_ret
  exact ⟨rfl, HB.out⟩
set_option maxHeartbeats 4000000 in
set_option maxRecDepth 100000 in
theorem specEnc_5 (fl : Bool) (n u b : Int) (t : ByteArray) (pt : Int) (pf pl : Bool) (pi pn : Int) (w : World) :
    Calls Tryd.prog 24 #[.agg #[.int .i64 5, .bool fl, .int .i64 n, .int .u64 u, .int .u64 b, .string t, .int .i64 pt, .bool pf, .bool pl, .int .i64 pi, .int .i64 pn]] w fun e w' => e = .returned (.string ⟨(Lib.beBytes 4 (wrap32 n % 4294967296).toNat).toArray⟩) ∧ Below w.heap.size w w' := by
  obtain ⟨U, hU⟩ : ∃ U, U = u64of n := ⟨_, rfl⟩
  have hw := wrapU n
  have hm := modU n
  rw [← hU] at hw hm
  have hr : U % 4294967296 = (wrap32 n % 4294967296).toNat := by rw [hU]; unfold u64of wrap32; omega
  have HC := Lib.hid (codBig4_any U (w.alloc (.cells #[.int .i64 5, .bool fl, .int .i64 n, .int .u64 u, .int .u64 b, .string t, .int .i64 pt, .bool pf, .bool pl, .int .i64 pi, .int .i64 pn] 37)))
  rw [hr] at HC
  clear hr hU
  go_enter Tryd.func24, Tryd.ntmps24
  go_wp2_with (go_at_call 65; go_loud (refine HC.out.mono ?_; rintro e_ w1 ⟨rfl, hb⟩; have HB := Lib.hid (spec_le hb); clear hb))
  go_ret
  exact ⟨rfl, HB.out⟩
set_option maxHeartbeats 4000000 in
set_option maxRecDepth 100000 in
theorem specEnc_11 (fl : Bool) (n u b : Int) (t : ByteArray) (pt : Int) (pf pl : Bool) (pi pn : Int) (w : World) :
    Calls Tryd.prog 24 #[.agg #[.int .i64 11, .bool fl, .int .i64 n, .int .u64 u, .int .u64 b, .string t, .int .i64 pt, .bool pf, .bool pl, .int .i64 pi, .int .i64 pn]] w fun e w' => e = .returned (.string ⟨(Lib.uvarint (u64of n)).toArray⟩) ∧ Below w.heap.size w w' := by
  obtain ⟨U, hU⟩ : ∃ U, U = u64of n := ⟨_, rfl⟩
  have hw := wrapU n
  have hm := modU n
  rw [← hU] at hw hm
  have hl := u64of_lt n
  rw [← hU] at hl ⊢
  have HC := Lib.hid (varint_any U (w.alloc (.cells #[.int .i64 11, .bool fl, .int .i64 n, .int .u64 u, .int .u64 b, .string t, .int .i64 pt, .bool pf, .bool pl, .int .i64 pi, .int .i64 pn] 37)) hl)
  clear hl hU
  go_enter Tryd.func24, Tryd.ntmps24
  go_wp2_with (go_at_call 32; go_loud (refine HC.out.mono ?_; rintro e_ w1 ⟨rfl, hb⟩; have HB := Lib.hid (spec_le hb); clear hb))
  go_ret
  exact ⟨rfl, HB.out⟩
set_option maxHeartbeats 4000000 in
set_option maxRecDepth 100000 in
theorem specEnc_6 (fl : Bool) (n u b : Int) (t : ByteArray) (pt : Nat) (pf pl : Bool) (pi pn : Int) (ht : pt < 4) (w : World) :
    Calls Tryd.prog 24 #[.agg #[.int .i64 6, .bool fl, .int .i64 n, .int .u64 u, .int .u64 b, .string t, .int .i64 (pt : Int), .bool pf, .bool pl, .int .i64 pi, .int .i64 pn]] w fun e w' => e = .returned (.string ⟨(pbytes pt pf pl pi pn).toArray⟩) ∧ Below w.heap.size w w' := by
  have HC := Lib.hid (paned_any pt ht pf pl pi pn (w.alloc (.cells #[.int .i64 6, .bool fl, .int .i64 n, .int .u64 u, .int .u64 b, .string t, .int .i64 (pt : Int), .bool pf, .bool pl, .int .i64 pi, .int .i64 pn] 37)))
  clear ht
  go_enter Tryd.func24, Tryd.ntmps24
  go_wp2_with (go_at_call 28; go_loud (refine HC.out.mono ?_; rintro e_ w1 ⟨rfl, hb⟩; have HB := Lib.hid (spec_le hb); clear hb))
  go_ret
  exact ⟨rfl, HB.out⟩
set_option maxHeartbeats 4000000 in
set_option maxRecDepth 100000 in
theorem specEnc_2 (fl : Bool) (n u b : Int) (t : ByteArray) (pt : Int) (pf pl : Bool) (pi pn : Int) (ht : t.size ≤ 1000000) (w : World) :
    Calls Tryd.prog 24 #[.agg #[.int .i64 2, .bool fl, .int .i64 n, .int .u64 u, .int .u64 b, .string t, .int .i64 pt, .bool pf, .bool pl, .int .i64 pi, .int .i64 pn]] w fun e w' => e = .returned (.string ⟨(Lib.uvarint t.size ++ t.data.toList).toArray⟩) ∧ Below w.heap.size w w' := by
  have hu : u64of (t.size : Int) = t.size := u64of_nat _ (by omega)
  obtain ⟨m, hm⟩ : ∃ m, t.size = m := ⟨_, rfl⟩
  have hm0 : (m : Int) % 18446744073709551616 = (m : Int) := by omega
  have hm1 : IntKind.u64.wrap (m : Int) = (m : Int) := by rw [wrapU, ← hm, hu]
  obtain ⟨r, hr⟩ : ∃ r : ByteArray, r = ⟨(Lib.uvarint m).toArray⟩ := ⟨_, rfl⟩
  have hrs : r.size ≤ 10 := by rw [hr]; have := Lib.uvarint_length64 (x := m) (by omega); simpa [ByteArray.size] using this
  have hrt : (⟨(Lib.uvarint t.size ++ t.data.toList).toArray⟩ : ByteArray) = r ++ t := by
    rw [hr, hm]; apply Eq.symm; apply str_ext0; rw [ByteArray.data_append]; simp
  rw [hrt]
  have HC := Lib.hid (fun W => varint_any m W (by omega))
  rw [← hr] at HC
  have q1 : (t.size : Int) = (m : Int) := by omega
  have hadd := add_strE r t hrs ht
  clear hu hr hrs hrt ht hm
  go_enter Tryd.func24, Tryd.ntmps24
  go_wp2
  have K0 := SB.both (SB.start t w #[.int .i64 2, .bool fl, .int .i64 n, .int .u64 u, .int .u64 b, .string t, .int .i64 pt, .bool pf, .bool pl, .int .i64 pi, .int .i64 pn] rfl)
  go_region_held3 (fun w' => w'.cell? ⟨w.heap.size, 5, none⟩ = some (.string t) ∧ Aside0 (SB t w (.cells #[.int .i64 2, .bool fl, .int .i64 n, .int .u64 u, .int .u64 b, .string t, .int .i64 pt, .bool pf, .bool pl, .int .i64 pi, .int .i64 pn] 37) w')) (assumption) ((go_at_call 32; (with_reducible refine (HC.out _).mono ?_); rintro e_ w1 ⟨rfl, hb⟩; have K1 : w1.cell? ⟨w.heap.size, 5, none⟩ = some (.string t) ∧ Aside0 (SB t w (.cells #[.int .i64 2, .bool fl, .int .i64 n, .int .u64 u, .int .u64 b, .string t, .int .i64 pt, .bool pf, .bool pl, .int .i64 pi, .int .i64 pn] 37) w1) := SB.both2 (by assumption) hb))
  all_goals
    go_wp2
    go_ret
    exact ⟨rfl, K1.2.out.2.2⟩
set_option maxHeartbeats 4000000 in
set_option maxRecDepth 100000 in
theorem specEnc_8 (fl : Bool) (n u b : Int) (t : ByteArray) (pt : Int) (pf pl : Bool) (pi pn : Int) (ht : t.size ≤ 1000000) (w : World) :
    Calls Tryd.prog 24 #[.agg #[.int .i64 8, .bool fl, .int .i64 n, .int .u64 u, .int .u64 b, .string t, .int .i64 pt, .bool pf, .bool pl, .int .i64 pi, .int .i64 pn]] w fun e w' => e = .returned (.string ⟨(Lib.uvarint t.size ++ t.data.toList).toArray⟩) ∧ Below w.heap.size w w' := by
  have hu : u64of (t.size : Int) = t.size := u64of_nat _ (by omega)
  obtain ⟨m, hm⟩ : ∃ m, t.size = m := ⟨_, rfl⟩
  have hm0 : (m : Int) % 18446744073709551616 = (m : Int) := by omega
  have hm1 : IntKind.u64.wrap (m : Int) = (m : Int) := by rw [wrapU, ← hm, hu]
  obtain ⟨r, hr⟩ : ∃ r : ByteArray, r = ⟨(Lib.uvarint m).toArray⟩ := ⟨_, rfl⟩
  have hrs : r.size ≤ 10 := by rw [hr]; have := Lib.uvarint_length64 (x := m) (by omega); simpa [ByteArray.size] using this
  have hrt : (⟨(Lib.uvarint t.size ++ t.data.toList).toArray⟩ : ByteArray) = r ++ t := by
    rw [hr, hm]; apply Eq.symm; apply str_ext0; rw [ByteArray.data_append]; simp
  rw [hrt]
  have HC := Lib.hid (fun W => varint_any m W (by omega))
  rw [← hr] at HC
  have q1 : (t.size : Int) = (m : Int) := by omega
  have hadd := add_strE r t hrs ht
  clear hu hr hrs hrt ht hm
  go_enter Tryd.func24, Tryd.ntmps24
  go_wp2
  have K0 := SB.both (SB.start t w #[.int .i64 8, .bool fl, .int .i64 n, .int .u64 u, .int .u64 b, .string t, .int .i64 pt, .bool pf, .bool pl, .int .i64 pi, .int .i64 pn] rfl)
  go_region_held3 (fun w' => w'.cell? ⟨w.heap.size, 5, none⟩ = some (.string t) ∧ Aside0 (SB t w (.cells #[.int .i64 8, .bool fl, .int .i64 n, .int .u64 u, .int .u64 b, .string t, .int .i64 pt, .bool pf, .bool pl, .int .i64 pi, .int .i64 pn] 37) w')) (assumption) ((go_at_call 32; (with_reducible refine (HC.out _).mono ?_); rintro e_ w1 ⟨rfl, hb⟩; have K1 : w1.cell? ⟨w.heap.size, 5, none⟩ = some (.string t) ∧ Aside0 (SB t w (.cells #[.int .i64 8, .bool fl, .int .i64 n, .int .u64 u, .int .u64 b, .string t, .int .i64 pt, .bool pf, .bool pl, .int .i64 pi, .int .i64 pn] 37) w1) := SB.both2 (by assumption) hb))
  all_goals
    go_wp2
    go_ret
    exact ⟨rfl, K1.2.out.2.2⟩
end Go.Proofs.YtgdbeiadlgkedaaDoor
set_option linter.unusedVariables false
set_option linter.unusedSimpArgs false
namespace Go.Proofs.YtgdbeiadlgkedaaDoor
open Go.RowKit PFnEncode Go.Proofs.YtgdbeiadlgkedaaDoorW.PrintWords Go.Proofs.YtgdbeiadlgkedaaDoorW.PrintLast Go.Proofs.YtgdbeiadlgkedaaDoorW.PrintMore
theorem cells11 {w : World} {k T : Nat} {v0 v1 v2 v3 v4 v5 v6 v7 v8 v9 v10 : Value} (h : w.heap[k]? = some (.cells #[v0, v1, v2, v3, v4, v5, v6, v7, v8, v9, v10] T (0, 0))) : w.cell? ⟨k, 0, none⟩ = some v0 ∧ w.cell? ⟨k, 1, none⟩ = some v1 ∧ w.cell? ⟨k, 2, none⟩ = some v2 ∧ w.cell? ⟨k, 3, none⟩ = some v3 ∧ w.cell? ⟨k, 4, none⟩ = some v4 ∧ w.cell? ⟨k, 5, none⟩ = some v5 ∧ w.cell? ⟨k, 6, none⟩ = some v6 ∧ w.cell? ⟨k, 7, none⟩ = some v7 ∧ w.cell? ⟨k, 8, none⟩ = some v8 ∧ w.cell? ⟨k, 9, none⟩ = some v9 ∧ w.cell? ⟨k, 10, none⟩ = some v10 :=
  ⟨(blk_cell h 0).trans rfl, (blk_cell h 1).trans rfl, (blk_cell h 2).trans rfl, (blk_cell h 3).trans rfl, (blk_cell h 4).trans rfl, (blk_cell h 5).trans rfl, (blk_cell h 6).trans rfl, (blk_cell h 7).trans rfl, (blk_cell h 8).trans rfl, (blk_cell h 9).trans rfl, (blk_cell h 10).trans rfl⟩
theorem dsplit {P : Prop} [Decidable P] {o : Option Bool} (h : o = some (decide P)) : (o = some true ∧ P) ∨ o = some false := by
  by_cases hp : P
  · exact .inl ⟨by rw [h, decide_eq_true hp], hp⟩
  · exact .inr (by rw [h, decide_eq_false hp])
theorem codOf_eq (a0 : Int) (fl : Bool) (n u b : Int) (t : ByteArray) (pt : Int) (pf pl : Bool) (pi pn : Int) : laws_codOf.f a0 fl n u b t pt pf pl pi pn = some (a0, fl, n, u, b, t, pt, pf, pl, pi, pn) := rfl
end Go.Proofs.YtgdbeiadlgkedaaDoor
set_option linter.unusedVariables false
set_option linter.unusedSimpArgs false
namespace Go.Proofs.YtgdbeiadlgkedaaDoor
open Go.RowKit PFnEncode Go.Proofs.YtgdbeiadlgkedaaDoorW.PrintWords Go.Proofs.YtgdbeiadlgkedaaDoorW.PrintLast Go.Proofs.YtgdbeiadlgkedaaDoorW.PrintMore
set_option maxHeartbeats 4000000 in
set_option maxRecDepth 100000 in
theorem cut_big (a0 : Int) (fl : Bool) (n u b : Int) (t : ByteArray) (pt : Int) (pf pl : Bool) (pi pn : Int) (c : Int) (w : World) (h : 2147483647 < t.size) :
    Calls Tryd.prog 4 #[.agg #[.int .i64 a0, .bool fl, .int .i64 n, .int .u64 u, .int .u64 b, .string t, .int .i64 pt, .bool pf, .bool pl, .int .i64 pi, .int .i64 pn], .int .u16 c] w fun e w' => e = .returned (.bool true) ∧ Below w.heap.size w w' := by
  have HF := Lib.hid (laws_zzFits1.calls a0 fl n u b t pt pf pl pi pn false (w.alloc (.cells #[.int .i64 a0, .bool fl, .int .i64 n, .int .u64 u, .int .u64 b, .string t, .int .i64 pt, .bool pf, .bool pl, .int .i64 pi, .int .i64 pn] 26)) (by unfold laws_zzFits1.f; rw [if_pos (by omega)]))
  clear h
  go_enter Tryd.func4, Tryd.ntmps4
  go_wp2_with (go_at_call 22; go_loud (refine HF.out.mono ?_; rintro e_ w1 ⟨rfl, hb⟩; have HB := Lib.hid (spec_le hb); clear hb))
  go_ret
  exact ⟨rfl, HB.out⟩
set_option maxHeartbeats 4000000 in
set_option maxRecDepth 100000 in
theorem cut_un (pe pl_ : Addr) (a0 : Int) (fl : Bool) (n u b : Int) (t : ByteArray) (pt : Int) (pf pl : Bool) (pi pn : Int) (c : Int) (w : World) (he : Env w.heap.size pe pl_ w) (h : ¬ 2147483647 < t.size) (k : Nat) (hc : laws_codClean.f k a0 fl n u b t pt pf pl pi pn = some false) :
    Calls Tryd.prog 4 #[.agg #[.int .i64 a0, .bool fl, .int .i64 n, .int .u64 u, .int .u64 b, .string t, .int .i64 pt, .bool pf, .bool pl, .int .i64 pi, .int .i64 pn], .int .u16 c] w fun e w' => e = .returned (.bool true) ∧ Below w.heap.size w w' := by
  have HE := Lib.hid he
  have HF := Lib.hid (laws_zzFits1.calls a0 fl n u b t pt pf pl pi pn true (w.alloc (.cells #[.int .i64 a0, .bool fl, .int .i64 n, .int .u64 u, .int .u64 b, .string t, .int .i64 pt, .bool pf, .bool pl, .int .i64 pi, .int .i64 pn] 26)) (by unfold laws_zzFits1.f; rw [if_neg (by omega)]))
  have HX := Lib.hid (heap_alloc_new w (.cells #[.int .i64 a0, .bool fl, .int .i64 n, .int .u64 u, .int .u64 b, .string t, .int .i64 pt, .bool pf, .bool pl, .int .i64 pi, .int .i64 pn] 26))
  have HCL := Lib.hid (fun W => laws_codClean.calls k a0 fl n u b t pt pf pl pi pn false W hc)
  clear h hc he
  go_enter Tryd.func4, Tryd.ntmps4
  go_wp2_with (first
    | (go_at_call 22; go_loud (refine HF.out.mono ?_; rintro e_ w1 ⟨rfl, hb⟩; have HB := Lib.hid (spec_le hb); have HX1 := Lib.hid (blk_below HX.out hb); obtain ⟨x0, x1, x2, x3, x4, x5, x6, x7, x8, x9, x10⟩ := cells11 HX1.out; clear hb))
    | (go_at_call 23; go_loud ((with_reducible refine (HCL.out _).mono ?_); rintro e_ w2 ⟨rfl, hb⟩; have HB2 := Lib.hid (below_then HB.out HB.out.size hb); clear hb))
    | (go_at_call 21; refine (awake_any w.heap.size pe pl_ w2 (HE.out.below HB2.out) HB2.out.size).mono ?_; rintro e_ w4 ⟨rfl, hb⟩; have HB4 := Lib.hid (below_then HB2.out HB2.out.size hb); clear hb))
  go_ret
  exact ⟨rfl, HB4.out⟩
end Go.Proofs.YtgdbeiadlgkedaaDoor
set_option linter.unusedVariables false
set_option linter.unusedSimpArgs false
namespace Go.Proofs.YtgdbeiadlgkedaaDoor
open Go.RowKit PFnEncode Go.Proofs.YtgdbeiadlgkedaaDoorW.PrintWords Go.Proofs.YtgdbeiadlgkedaaDoorW.PrintLast Go.Proofs.YtgdbeiadlgkedaaDoorW.PrintMore
set_option maxHeartbeats 4000000 in
set_option maxRecDepth 100000 in
theorem cut_ok (pe pl_ : Addr) (a0 : Int) (fl : Bool) (n u b : Int) (t : ByteArray) (pt : Int) (pf pl : Bool) (pi pn : Int) (c : Nat) (w : World) (he : Env w.heap.size pe pl_ w) (h : ¬ 2147483647 < t.size) (k : Nat) (hc : laws_codClean.f k a0 fl n u b t pt pf pl pi pn = some true) (r : ByteArray) (hr0 : 0 < r.size) (hr1 : r.size ≤ 2147483700) (hc16 : c < 65536)
    (hs : ∀ W, Calls Tryd.prog 24 #[.agg #[.int .i64 a0, .bool fl, .int .i64 n, .int .u64 u, .int .u64 b, .string t, .int .i64 pt, .bool pf, .bool pl, .int .i64 pi, .int .i64 pn]] W fun e w' => e = .returned (.string r) ∧ Below W.heap.size W w')
    (hd : ∀ W, Env w.heap.size pe pl_ W → w.heap.size ≤ W.heap.size → Calls Tryd.prog 20 #[.int .i64 a0, .string (r.extract 0 (c % r.size))] W fun e w' => ∃ (i' : Nat) (s : ByteArray), e = .returned (.tuple #[.agg #[.int .i64 a0, .bool false, .int .i64 0, .int .u64 0, .int .u64 0, .string ⟨#[]⟩, .int .i64 0, .bool false, .bool false, .int .i64 0, .int .i64 0], .int .i64 i', .string s]) ∧ i' ≤ (r.extract 0 (c % r.size)).size ∧ s.data.toList ≠ [] ∧ Below W.heap.size W w') :
    Calls Tryd.prog 4 #[.agg #[.int .i64 a0, .bool fl, .int .i64 n, .int .u64 u, .int .u64 b, .string t, .int .i64 pt, .bool pf, .bool pl, .int .i64 pi, .int .i64 pn], .int .u16 c] w fun e w' => e = .returned (.bool true) ∧ Below w.heap.size w w' := by
  have HE := Lib.hid he
  have HF := Lib.hid (laws_zzFits1.calls a0 fl n u b t pt pf pl pi pn true (w.alloc (.cells #[.int .i64 a0, .bool fl, .int .i64 n, .int .u64 u, .int .u64 b, .string t, .int .i64 pt, .bool pf, .bool pl, .int .i64 pi, .int .i64 pn] 26)) (by unfold laws_zzFits1.f; rw [if_neg (by omega)]))
  have HX := Lib.hid (heap_alloc_new w (.cells #[.int .i64 a0, .bool fl, .int .i64 n, .int .u64 u, .int .u64 b, .string t, .int .i64 pt, .bool pf, .bool pl, .int .i64 pi, .int .i64 pn] 26))
  have HCL := Lib.hid (fun W => laws_codClean.calls k a0 fl n u b t pt pf pl pi pn true W hc)
  have HO := Lib.hid (fun W => laws_codOf.calls a0 fl n u b t pt pf pl pi pn a0 fl n u b t pt pf pl pi pn W (codOf_eq a0 fl n u b t pt pf pl pi pn))
  obtain ⟨m, hm⟩ : ∃ m, m = c % r.size := ⟨_, rfl⟩
  have hml : m < r.size := by rw [hm]; exact Nat.mod_lt _ hr0
  have qm : (c : Int).tmod (r.size : Int) = (m : Int) := by rw [hm]; exact (Int.ofNat_tmod c r.size).symm
  rw [← hm] at hd
  have hxs : (r.extract 0 m).size = m := by simp [ByteArray.size_extract]; omega
  have q0 : (r.size : Int) ≠ 0 := by omega
  have q1 : (r.size : Int) ≤ 2147483700 := by omega
  have q2 : (m : Int) ≤ (r.size : Int) := by omega
  have q3 : (c : Int) < 65536 := by omega
  have q4 : wrap64 (c : Int) = (c : Int) := by unfold wrap64; omega
  have q5 : IntKind.i64.wrap (c : Int) = (c : Int) := IntWalk.i64_in _ (by omega)
  have HS := Lib.hid hs
  have HD := Lib.hid hd
  have HM := Lib.hid (And.intro hml hxs)
  clear h hc he hs hd hml hm hxs hr1 hc16
  go_enter Tryd.func4, Tryd.ntmps4
  go_wp2_with (first
    | (go_at_call 22; go_loud (refine HF.out.mono ?_; rintro e_ w1 ⟨rfl, hb⟩; have HB := Lib.hid (spec_le hb); have HX1 := Lib.hid (blk_below HX.out hb); obtain ⟨x0, x1, x2, x3, x4, x5, x6, x7, x8, x9, x10⟩ := cells11 HX1.out; clear hb))
    | (go_at_call 23; go_loud ((with_reducible refine (HCL.out _).mono ?_); rintro e_ w2 ⟨rfl, hb⟩; have HB2 := Lib.hid (below_then HB.out HB.out.size hb); have HX2 := Lib.hid (blk_below HX1.out hb); clear x0 x1 x2 x3 x4 x5 x6 x7 x8 x9 x10; obtain ⟨x0, x1, x2, x3, x4, x5, x6, x7, x8, x9, x10⟩ := cells11 HX2.out; clear hb))
    | (go_at_call 25; go_loud ((with_reducible refine (HO.out _).mono ?_); rintro e_ w5 ⟨rfl, hb⟩; have HB5 := Lib.hid (below_then HB2.out HB2.out.size hb); have HX5 := Lib.hid (blk_below HX2.out hb); clear x0 x1 x2 x3 x4 x5 x6 x7 x8 x9 x10; clear hb))
    | (go_at_call 24; go_loud ((with_reducible refine (HS.out _).mono ?_); rintro e_ w6 ⟨rfl, hb⟩; have HB6 := Lib.hid (below_then HB5.out HB5.out.size hb); have HX6 := Lib.hid (blk_below HX5.out hb); obtain ⟨x0, x1, x2, x3, x4, x5, x6, x7, x8, x9, x10⟩ := cells11 HX6.out; clear hb)))
  have hlt : w.heap.size < w6.heap.size := blk_lt HX6.out
  have x0a : ∀ o : Obj, (w6.drew.alloc o).cell? ⟨w.heap.size, 0, none⟩ = some (.int .i64 a0) := fun o => (World.cell?_of_block (a := ⟨w.heap.size, 0, none⟩) (Below.heap_alloc w6.drew o _ hlt)).trans x0
  clear x1 x2 x3 x4 x5 x6 x7 x8 x9 x10 HF HX HCL HO HS HX1 HX2 HX5 HX6
  have qw : IntKind.i64.wrap (m : Int) = (m : Int) := IntWalk.i64_in _ (by have := HM.out.1; omega)
  have qw2 : wrap64 (m : Int) = (m : Int) := IntWalk.wrap64_in _ (by have := HM.out.1; omega)
  have z1 : ¬ r.size = 0 := by omega
  have z2 : ¬ r = ByteArray.empty := by intro e; rw [e] at z1; exact z1 rfl
  have z3 : ((r.size : Int) == 0) = false := by rw [beq_eq_false_iff_ne]; exact q0
  clear q3 q4 q0
  go_region_with (first | (go_at_call 20; go_loud ((with_reducible refine (HD.out _ ?e1 ?e2).mono ?_); (case e1 => exact HE.out.below (below_drewN HB6.out 1)); (case e2 => exact HB6.out.size); rintro e_ w7 ⟨i', s, rfl, hi, hse, hb⟩; have HB7 := Lib.hid (below_then (below_drewN HB6.out 1) HB6.out.size hb); have HI := Lib.hid (And.intro hi hse); clear hi hse hb)) | (go_at_call 20; go_loud ((with_reducible refine (HD.out _ ?e1 ?e2).mono ?_); (case e1 => exact HE.out.below ((below_drewN HB6.out 1).alloc HB6.out.size _)); (case e2 => have := HB6.out.size; simp; omega); rintro e_ w7 ⟨i', s, rfl, hi, hse, hb⟩; have HB7 := Lib.hid (below_then ((below_drewN HB6.out 1).alloc HB6.out.size _) (by have := HB6.out.size; simp; omega) hb); have hz := blk_below (heap_alloc_new (w6.drewN 1) _) hb; have k0 : w7.cell? ⟨w6.heap.size, 0, none⟩ = some (.int .i64 0) := (blk_cell hz 0).trans rfl; have g0 : w7.frozen? ⟨w6.heap.size, 0, none⟩ = false := blk_frozen hz 0; have k1 : w7.cell? ⟨w6.heap.size, 1, none⟩ = some (.bool false) := (blk_cell hz 1).trans rfl; have g1 : w7.frozen? ⟨w6.heap.size, 1, none⟩ = false := blk_frozen hz 1; have k2 : w7.cell? ⟨w6.heap.size, 2, none⟩ = some (.int .i64 0) := (blk_cell hz 2).trans rfl; have g2 : w7.frozen? ⟨w6.heap.size, 2, none⟩ = false := blk_frozen hz 2; have k3 : w7.cell? ⟨w6.heap.size, 3, none⟩ = some (.int .u64 0) := (blk_cell hz 3).trans rfl; have g3 : w7.frozen? ⟨w6.heap.size, 3, none⟩ = false := blk_frozen hz 3; have k4 : w7.cell? ⟨w6.heap.size, 4, none⟩ = some (.int .u64 0) := (blk_cell hz 4).trans rfl; have g4 : w7.frozen? ⟨w6.heap.size, 4, none⟩ = false := blk_frozen hz 4; have k5 : w7.cell? ⟨w6.heap.size, 5, none⟩ = some (.string ⟨#[]⟩) := (blk_cell hz 5).trans rfl; have g5 : w7.frozen? ⟨w6.heap.size, 5, none⟩ = false := blk_frozen hz 5; have k6 : w7.cell? ⟨w6.heap.size, 6, none⟩ = some (.int .i64 0) := (blk_cell hz 6).trans rfl; have g6 : w7.frozen? ⟨w6.heap.size, 6, none⟩ = false := blk_frozen hz 6; have k7 : w7.cell? ⟨w6.heap.size, 7, none⟩ = some (.bool false) := (blk_cell hz 7).trans rfl; have g7 : w7.frozen? ⟨w6.heap.size, 7, none⟩ = false := blk_frozen hz 7; have k8 : w7.cell? ⟨w6.heap.size, 8, none⟩ = some (.bool false) := (blk_cell hz 8).trans rfl; have g8 : w7.frozen? ⟨w6.heap.size, 8, none⟩ = false := blk_frozen hz 8; have k9 : w7.cell? ⟨w6.heap.size, 9, none⟩ = some (.int .i64 0) := (blk_cell hz 9).trans rfl; have g9 : w7.frozen? ⟨w6.heap.size, 9, none⟩ = false := blk_frozen hz 9; have k10 : w7.cell? ⟨w6.heap.size, 10, none⟩ = some (.int .i64 0) := (blk_cell hz 10).trans rfl; have g10 : w7.frozen? ⟨w6.heap.size, 10, none⟩ = false := blk_frozen hz 10; clear hz; have HI := Lib.hid (And.intro hi hse); clear hi hse hb)))
  all_goals
    have hi2 : i' ≤ r.size := by have := HI.out.1; rw [HM.out.2] at this; have := HM.out.1; omega
    have hi3 : (i' : Int) ≤ (r.size : Int) := by omega
    have hi4 : i' ≤ r.size := hi2
    have hs2 : s.toList.isEmpty = false := by have := HI.out.2; rw [ByteArray.toList_eq]; cases h : s.data.toList with
      | nil => exact absurd h this
      | cons a b => rfl
    have hs1 : ¬ s = ⟨#[]⟩ := by intro e; have := HI.out.2; rw [e] at this; exact this rfl
    go_wp2_with (first | (go_at_call 21; (with_reducible refine (awake_any w.heap.size pe pl_ _ (HE.out.below (HB7.out.alloc HB7.out.size _)) ?hs).mono ?_); (case hs => have h7 := HB7.out.size; have h6 := HB6.out.size; simp only [World.size_setCell, World.size_alloc]; omega); rintro e_ w8 ⟨rfl, hb⟩; have HB8 := Lib.hid (below_then (HB7.out.alloc HB7.out.size _) (by have h7 := HB7.out.size; have h6 := HB6.out.size; simp only [World.size_setCell, World.size_alloc]; omega) hb); clear hb) | (go_at_call 21; (with_reducible refine (awake_any w.heap.size pe pl_ _ (HE.out.below (((((((((((HB7.out.setCell (p := ⟨w6.heap.size, 0, none⟩) HB6.out.size _).setCell (p := ⟨w6.heap.size, 1, none⟩) HB6.out.size _).setCell (p := ⟨w6.heap.size, 2, none⟩) HB6.out.size _).setCell (p := ⟨w6.heap.size, 3, none⟩) HB6.out.size _).setCell (p := ⟨w6.heap.size, 4, none⟩) HB6.out.size _).setCell (p := ⟨w6.heap.size, 5, none⟩) HB6.out.size _).setCell (p := ⟨w6.heap.size, 6, none⟩) HB6.out.size _).setCell (p := ⟨w6.heap.size, 7, none⟩) HB6.out.size _).setCell (p := ⟨w6.heap.size, 8, none⟩) HB6.out.size _).setCell (p := ⟨w6.heap.size, 9, none⟩) HB6.out.size _).setCell (p := ⟨w6.heap.size, 10, none⟩) HB6.out.size _)) ?hs).mono ?_); (case hs => have h7 := HB7.out.size; have h6 := HB6.out.size; simp only [World.size_setCell, World.size_alloc]; omega); rintro e_ w8 ⟨rfl, hb⟩; have HB8 := Lib.hid (below_then (((((((((((HB7.out.setCell (p := ⟨w6.heap.size, 0, none⟩) HB6.out.size _).setCell (p := ⟨w6.heap.size, 1, none⟩) HB6.out.size _).setCell (p := ⟨w6.heap.size, 2, none⟩) HB6.out.size _).setCell (p := ⟨w6.heap.size, 3, none⟩) HB6.out.size _).setCell (p := ⟨w6.heap.size, 4, none⟩) HB6.out.size _).setCell (p := ⟨w6.heap.size, 5, none⟩) HB6.out.size _).setCell (p := ⟨w6.heap.size, 6, none⟩) HB6.out.size _).setCell (p := ⟨w6.heap.size, 7, none⟩) HB6.out.size _).setCell (p := ⟨w6.heap.size, 8, none⟩) HB6.out.size _).setCell (p := ⟨w6.heap.size, 9, none⟩) HB6.out.size _).setCell (p := ⟨w6.heap.size, 10, none⟩) HB6.out.size _) (by have h7 := HB7.out.size; have h6 := HB6.out.size; simp only [World.size_setCell, World.size_alloc]; omega) hb); clear hb))
    go_ret
    exact ⟨rfl, HB8.out⟩
end Go.Proofs.YtgdbeiadlgkedaaDoor
