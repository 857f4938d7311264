/- Contracts: EncodeValue of numbers. -/
import Derived.Test.YtgdbeiadlgkedaaDoorWv
import Derived.Test.YtgdbeiadlgkedaaDoorDx
namespace Go.Proofs.YtgdbeiadlgkedaaDoor
open Go.RowKit
set_option linter.unusedVariables false
set_option linter.unusedSimpArgs false

theorem word_nil (w : World) : Calls Tryd.prog 63 #[.nilIface] w fun e w' => e = .returned (.string ⟨#[]⟩) ∧ w = w' := by
  go_enter Tryd.func63, Tryd.ntmps63
  go_wp2
  go_ret
  exact ⟨rfl, rfl⟩
theorem errText_any (a : Addr) (s : ByteArray) (w : World) (h : w.cell? a = some (.string s)) : Calls Tryd.prog 141 #[.pointer (some a)] w fun e w' => e = .returned (.string s) ∧ w = w' := by
  go_enter Tryd.func141, Tryd.ntmps141
  go_wp2
  go_ret
  exact ⟨rfl, rfl⟩
theorem word_err (a : Addr) (s : ByteArray) (w : World) (h : w.cell? a = some (.string s)) : Calls Tryd.prog 63 #[errV a] w fun e w' => e = .returned (.string s) ∧ w = w' := by
  have HC := Lib.hid (errText_any a s w h)
  clear h
  go_enter Tryd.func63, Tryd.ntmps63
  go_wp2_with (go_at_call 141; go_loud (refine HC.out.mono ?_; rintro e_ w1 ⟨rfl, rfl⟩))
  go_ret
  exact ⟨rfl, rfl⟩
theorem fresh_Bf (w : World) : Bf w.heap.size w.heap.size [] (w.alloc (.cells #[.slice none 0 0, .int .i64 0, .int .i8 0] 129)) := Lib.fresh_isBuffer _ _ w
theorem string_any (B b : Nat) (l : List UInt8) (w : World) (h : Bf B b l w) : Calls Tryd.prog 84 #[.pointer (some ⟨b, 0, none⟩)] w fun e w' => e = .returned (.string ⟨l.toArray⟩) ∧ ∃ n, w' = w.drewN n := Tryd.Buffer_String B b l w h
theorem enc_below {w w2 w3 : World} {o o2 : Obj} {n : Nat} (h : Below (w.heap.size + 1) ((w.alloc o).alloc o2) w2) (h3 : w3 = w2.drewN n) : Below w.heap.size w w3 := by
  subst h3
  have h0 : Below w.heap.size w ((w.alloc o).alloc o2) := ((Below.refl _ w).alloc (Nat.le_refl _) _).alloc (by simp) _
  have h1 := h0.trans (h.mono (by simp))
  exact ⟨h1.os, h1.tape, h1.output, h1.size, h1.block⟩
set_option maxHeartbeats 4000000 in
set_option maxRecDepth 100000 in
theorem encVal_11 (fl : Bool) (n u b : Int) (t : ByteArray) (pt : Int) (pf pl : Bool) (pi pn : Int) (w : World) :
    Calls Tryd.prog 27 #[.agg #[.int .i64 11, .bool fl, .int .i64 n, .int .u64 u, .int .u64 b, .string t, .int .i64 pt, .bool pf, .bool pl, .int .i64 pi, .int .i64 pn]] w fun e w' => e = .returned (.tuple #[.string ⟨(Lib.uvarint (u64of n)).toArray⟩, .string ⟨#[]⟩]) ∧ Below w.heap.size w w' := by
  have hF : Bf (w.heap.size + 1) (w.heap.size + 1) [] ((w.alloc (.cells #[.int .i64 11, .bool fl, .int .i64 n, .int .u64 u, .int .u64 b, .string t, .int .i64 pt, .bool pf, .bool pl, .int .i64 pi, .int .i64 pn] 26)).alloc (.cells #[.slice none 0 0, .int .i64 0, .int .i8 0] 129)) := by
    have := fresh_Bf (w.alloc (.cells #[.int .i64 11, .bool fl, .int .i64 n, .int .u64 u, .int .u64 b, .string t, .int .i64 pt, .bool pf, .bool pl, .int .i64 pi, .int .i64 pn] 26)); rwa [World.size_alloc] at this
  have HC := Lib.hid (encVarI_any _ _ n [] _ hF (by decide))
  clear hF
  go_enter Tryd.func27, Tryd.ntmps27
  go_wp2_with (first
    | (go_at_call 82; go_loud (refine HC.out.mono ?_; rintro e_ w1 ⟨rfl, h1, h2, _⟩; have H1 := Lib.hid h1; have H2 := Lib.hid h2; clear h1 h2))
    | (go_at_call 84; refine (string_any _ _ _ _ H1.out).mono ?_; rintro e_ w2 ⟨rfl, q2, hq⟩; have HQ := Lib.hid (enc_below H2.out hq); clear hq)
    | (go_at_call 63; refine (word_nil _).mono ?_; rintro e_ w3 ⟨rfl, rfl⟩))
  all_goals (go_ret2; exact ⟨rfl, HQ.out⟩)
set_option maxHeartbeats 4000000 in
set_option maxRecDepth 100000 in
theorem encVal_12 (fl : Bool) (n u b : Int) (t : ByteArray) (pt : Int) (pf pl : Bool) (pi pn : Int) (w : World) (hu0 : 0 ≤ u) (hu : u < 18446744073709551616) :
    Calls Tryd.prog 27 #[.agg #[.int .i64 12, .bool fl, .int .i64 n, .int .u64 u, .int .u64 b, .string t, .int .i64 pt, .bool pf, .bool pl, .int .i64 pi, .int .i64 pn]] w fun e w' => e = .returned (.tuple #[.string ⟨(Lib.uvarint u.toNat).toArray⟩, .string ⟨#[]⟩]) ∧ Below w.heap.size w w' := by
  have hF : Bf (w.heap.size + 1) (w.heap.size + 1) [] ((w.alloc (.cells #[.int .i64 12, .bool fl, .int .i64 n, .int .u64 u, .int .u64 b, .string t, .int .i64 pt, .bool pf, .bool pl, .int .i64 pi, .int .i64 pn] 26)).alloc (.cells #[.slice none 0 0, .int .i64 0, .int .i8 0] 129)) := by
    have := fresh_Bf (w.alloc (.cells #[.int .i64 12, .bool fl, .int .i64 n, .int .u64 u, .int .u64 b, .string t, .int .i64 pt, .bool pf, .bool pl, .int .i64 pi, .int .i64 pn] 26)); rwa [World.size_alloc] at this
  have HC := Lib.hid ((show _ from by have := encVar_any _ _ u.toNat [] _ hF (by omega) (by decide); rwa [show (u.toNat : Int) = u from by omega] at this))
  clear hu0 hu
  clear hF
  go_enter Tryd.func27, Tryd.ntmps27
  go_wp2_with (first
    | (go_at_call 83; go_loud (refine HC.out.mono ?_; rintro e_ w1 ⟨rfl, h1, h2, _⟩; have H1 := Lib.hid h1; have H2 := Lib.hid h2; clear h1 h2))
    | (go_at_call 84; refine (string_any _ _ _ _ H1.out).mono ?_; rintro e_ w2 ⟨rfl, q2, hq⟩; have HQ := Lib.hid (enc_below H2.out hq); clear hq)
    | (go_at_call 63; refine (word_nil _).mono ?_; rintro e_ w3 ⟨rfl, rfl⟩))
  all_goals (go_ret2; exact ⟨rfl, HQ.out⟩)
set_option maxHeartbeats 4000000 in
set_option maxRecDepth 100000 in
theorem encVal_10 (fl : Bool) (n u b : Int) (t : ByteArray) (pt : Int) (pf pl : Bool) (pi pn : Int) (w : World) (hu0 : 0 ≤ u) (hu : u < 18446744073709551616) :
    Calls Tryd.prog 27 #[.agg #[.int .i64 10, .bool fl, .int .i64 n, .int .u64 u, .int .u64 b, .string t, .int .i64 pt, .bool pf, .bool pl, .int .i64 pi, .int .i64 pn]] w fun e w' => e = .returned (.tuple #[.string ⟨(Lib.beBytes 8 u.toNat).toArray⟩, .string ⟨#[]⟩]) ∧ Below w.heap.size w w' := by
  have hF : Bf (w.heap.size + 1) (w.heap.size + 1) [] ((w.alloc (.cells #[.int .i64 10, .bool fl, .int .i64 n, .int .u64 u, .int .u64 b, .string t, .int .i64 pt, .bool pf, .bool pl, .int .i64 pi, .int .i64 pn] 26)).alloc (.cells #[.slice none 0 0, .int .i64 0, .int .i8 0] 129)) := by
    have := fresh_Bf (w.alloc (.cells #[.int .i64 10, .bool fl, .int .i64 n, .int .u64 u, .int .u64 b, .string t, .int .i64 pt, .bool pf, .bool pl, .int .i64 pi, .int .i64 pn] 26)); rwa [World.size_alloc] at this
  have HC := Lib.hid ((show _ from by have := encU64_any _ _ u.toNat [] _ hF (by omega) (by decide); rwa [show (u.toNat : Int) = u from by omega] at this))
  clear hu0 hu
  clear hF
  go_enter Tryd.func27, Tryd.ntmps27
  go_wp2_with (first
    | (go_at_call 81; go_loud (refine HC.out.mono ?_; rintro e_ w1 ⟨rfl, h1, h2⟩; have H1 := Lib.hid h1; have H2 := Lib.hid h2; clear h1 h2))
    | (go_at_call 84; refine (string_any _ _ _ _ H1.out).mono ?_; rintro e_ w2 ⟨rfl, q2, hq⟩; have HQ := Lib.hid (enc_below H2.out hq); clear hq)
    | (go_at_call 63; refine (word_nil _).mono ?_; rintro e_ w3 ⟨rfl, rfl⟩))
  all_goals (go_ret2; exact ⟨rfl, HQ.out⟩)
set_option maxHeartbeats 4000000 in
set_option maxRecDepth 100000 in
theorem encVal_9 (fl : Bool) (n u b : Int) (t : ByteArray) (pt : Int) (pf pl : Bool) (pi pn : Int) (w : World) :
    Calls Tryd.prog 27 #[.agg #[.int .i64 9, .bool fl, .int .i64 n, .int .u64 u, .int .u64 b, .string t, .int .i64 pt, .bool pf, .bool pl, .int .i64 pi, .int .i64 pn]] w fun e w' => e = .returned (.tuple #[.string ⟨(Lib.beBytes 4 (u % 4294967296).toNat).toArray⟩, .string ⟨#[]⟩]) ∧ Below w.heap.size w w' := by
  have hF : Bf (w.heap.size + 1) (w.heap.size + 1) [] ((w.alloc (.cells #[.int .i64 9, .bool fl, .int .i64 n, .int .u64 u, .int .u64 b, .string t, .int .i64 pt, .bool pf, .bool pl, .int .i64 pi, .int .i64 pn] 26)).alloc (.cells #[.slice none 0 0, .int .i64 0, .int .i8 0] 129)) := by
    have := fresh_Bf (w.alloc (.cells #[.int .i64 9, .bool fl, .int .i64 n, .int .u64 u, .int .u64 b, .string t, .int .i64 pt, .bool pf, .bool pl, .int .i64 pi, .int .i64 pn] 26)); rwa [World.size_alloc] at this
  have HC := Lib.hid ((show _ from by have := encU32_any _ _ (u % 4294967296).toNat [] _ hF (by omega) (by decide); rwa [show ((u % 4294967296).toNat : Int) = u % 4294967296 from by omega] at this))
  clear hF
  go_enter Tryd.func27, Tryd.ntmps27
  go_wp2_with (first
    | (go_at_call 80; go_loud (refine HC.out.mono ?_; rintro e_ w1 ⟨rfl, h1, h2⟩; have H1 := Lib.hid h1; have H2 := Lib.hid h2; clear h1 h2))
    | (go_at_call 84; refine (string_any _ _ _ _ H1.out).mono ?_; rintro e_ w2 ⟨rfl, q2, hq⟩; have HQ := Lib.hid (enc_below H2.out hq); clear hq)
    | (go_at_call 63; refine (word_nil _).mono ?_; rintro e_ w3 ⟨rfl, rfl⟩))
  all_goals (go_ret2; exact ⟨rfl, HQ.out⟩)
set_option maxHeartbeats 4000000 in
set_option maxRecDepth 100000 in
theorem encVal_0 (fl : Bool) (n u b : Int) (t : ByteArray) (pt : Int) (pf pl : Bool) (pi pn : Int) (w : World) :
    Calls Tryd.prog 27 #[.agg #[.int .i64 0, .bool fl, .int .i64 n, .int .u64 u, .int .u64 b, .string t, .int .i64 pt, .bool pf, .bool pl, .int .i64 pi, .int .i64 pn]] w fun e w' => e = .returned (.tuple #[.string ⟨([if fl then 1 else 0]).toArray⟩, .string ⟨#[]⟩]) ∧ Below w.heap.size w w' := by
  have hF : Bf (w.heap.size + 1) (w.heap.size + 1) [] ((w.alloc (.cells #[.int .i64 0, .bool fl, .int .i64 n, .int .u64 u, .int .u64 b, .string t, .int .i64 pt, .bool pf, .bool pl, .int .i64 pi, .int .i64 pn] 26)).alloc (.cells #[.slice none 0 0, .int .i64 0, .int .i8 0] 129)) := by
    have := fresh_Bf (w.alloc (.cells #[.int .i64 0, .bool fl, .int .i64 n, .int .u64 u, .int .u64 b, .string t, .int .i64 pt, .bool pf, .bool pl, .int .i64 pi, .int .i64 pn] 26)); rwa [World.size_alloc] at this
  have HC := Lib.hid (encBool_any _ _ fl [] _ hF (by decide))
  clear hF
  go_enter Tryd.func27, Tryd.ntmps27
  go_wp2_with (first
    | (go_at_call 68; go_loud (refine HC.out.mono ?_; rintro e_ w1 ⟨rfl, h1, h2⟩; have H1 := Lib.hid h1; have H2 := Lib.hid h2; clear h1 h2))
    | (go_at_call 84; refine (string_any _ _ _ _ H1.out).mono ?_; rintro e_ w2 ⟨rfl, q2, hq⟩; have HQ := Lib.hid (enc_below H2.out hq); clear hq)
    | (go_at_call 63; refine (word_nil _).mono ?_; rintro e_ w3 ⟨rfl, rfl⟩))
  all_goals (go_ret2; exact ⟨rfl, HQ.out⟩)
set_option maxHeartbeats 4000000 in
set_option maxRecDepth 100000 in
theorem encVal_1 (fl : Bool) (n u b : Int) (t : ByteArray) (pt : Int) (pf pl : Bool) (pi pn : Int) (w : World) :
    Calls Tryd.prog 27 #[.agg #[.int .i64 1, .bool fl, .int .i64 n, .int .u64 u, .int .u64 b, .string t, .int .i64 pt, .bool pf, .bool pl, .int .i64 pi, .int .i64 pn]] w fun e w' => e = .returned (.tuple #[.string ⟨([(n % 256).toNat.toUInt8]).toArray⟩, .string ⟨#[]⟩]) ∧ Below w.heap.size w w' := by
  have hF : Bf (w.heap.size + 1) (w.heap.size + 1) [] ((w.alloc (.cells #[.int .i64 1, .bool fl, .int .i64 n, .int .u64 u, .int .u64 b, .string t, .int .i64 pt, .bool pf, .bool pl, .int .i64 pi, .int .i64 pn] 26)).alloc (.cells #[.slice none 0 0, .int .i64 0, .int .i8 0] 129)) := by
    have := fresh_Bf (w.alloc (.cells #[.int .i64 1, .bool fl, .int .i64 n, .int .u64 u, .int .u64 b, .string t, .int .i64 pt, .bool pf, .bool pl, .int .i64 pi, .int .i64 pn] 26)); rwa [World.size_alloc] at this
  have HC := Lib.hid ((show _ from by have := encByte_any _ _ (n % 256).toNat.toUInt8 [] _ hF (by decide); rwa [show (((n % 256).toNat.toUInt8.toNat : Nat) : Int) = n % 256 from by rw [u8_toNat (by omega)]; omega] at this))
  clear hF
  go_enter Tryd.func27, Tryd.ntmps27
  go_wp2_with (first
    | (go_at_call 69; go_loud (refine HC.out.mono ?_; rintro e_ w1 ⟨rfl, h1, h2⟩; have H1 := Lib.hid h1; have H2 := Lib.hid h2; clear h1 h2))
    | (go_at_call 84; refine (string_any _ _ _ _ H1.out).mono ?_; rintro e_ w2 ⟨rfl, q2, hq⟩; have HQ := Lib.hid (enc_below H2.out hq); clear hq)
    | (go_at_call 63; refine (word_nil _).mono ?_; rintro e_ w3 ⟨rfl, rfl⟩))
  all_goals (go_ret2; exact ⟨rfl, HQ.out⟩)
set_option maxHeartbeats 4000000 in
set_option maxRecDepth 100000 in
theorem encVal_4 (fl : Bool) (n u b : Int) (t : ByteArray) (pt : Int) (pf pl : Bool) (pi pn : Int) (w : World) (hn0 : -9223372036854775808 ≤ n) (hn1 : n ≤ 9223372036854775807) :
    Calls Tryd.prog 27 #[.agg #[.int .i64 4, .bool fl, .int .i64 n, .int .u64 u, .int .u64 b, .string t, .int .i64 pt, .bool pf, .bool pl, .int .i64 pi, .int .i64 pn]] w fun e w' => e = .returned (.tuple #[.string ⟨(Lib.beBytes 8 (n + 9223372036854775808).toNat).toArray⟩, .string ⟨#[]⟩]) ∧ Below w.heap.size w w' := by
  have hF : Bf (w.heap.size + 1) (w.heap.size + 1) [] ((w.alloc (.cells #[.int .i64 4, .bool fl, .int .i64 n, .int .u64 u, .int .u64 b, .string t, .int .i64 pt, .bool pf, .bool pl, .int .i64 pi, .int .i64 pn] 26)).alloc (.cells #[.slice none 0 0, .int .i64 0, .int .i8 0] 129)) := by
    have := fresh_Bf (w.alloc (.cells #[.int .i64 4, .bool fl, .int .i64 n, .int .u64 u, .int .u64 b, .string t, .int .i64 pt, .bool pf, .bool pl, .int .i64 pi, .int .i64 pn] 26)); rwa [World.size_alloc] at this
  have HC := Lib.hid (encTime_any _ _ n [] _ hn0 hn1 hF (by decide))
  clear hn0 hn1
  clear hF
  go_enter Tryd.func27, Tryd.ntmps27
  go_wp2_with (first
    | (go_at_call 73; go_loud (refine HC.out.mono ?_; rintro e_ w1 ⟨rfl, h1, h2⟩; have H1 := Lib.hid h1; have H2 := Lib.hid h2; clear h1 h2))
    | (go_at_call 84; refine (string_any _ _ _ _ H1.out).mono ?_; rintro e_ w2 ⟨rfl, q2, hq⟩; have HQ := Lib.hid (enc_below H2.out hq); clear hq)
    | (go_at_call 63; refine (word_nil _).mono ?_; rintro e_ w3 ⟨rfl, rfl⟩))
  all_goals (go_ret2; exact ⟨rfl, HQ.out⟩)
set_option maxHeartbeats 4000000 in
set_option maxRecDepth 100000 in
theorem encVal_5 (fl : Bool) (n u b : Int) (t : ByteArray) (pt : Int) (pf pl : Bool) (pi pn : Int) (w : World) :
    Calls Tryd.prog 27 #[.agg #[.int .i64 5, .bool fl, .int .i64 n, .int .u64 u, .int .u64 b, .string t, .int .i64 pt, .bool pf, .bool pl, .int .i64 pi, .int .i64 pn]] w fun e w' => e = .returned (.tuple #[.string ⟨(Lib.beBytes 4 (wrap32 n % 4294967296).toNat).toArray⟩, .string ⟨#[]⟩]) ∧ Below w.heap.size w w' := by
  have hF : Bf (w.heap.size + 1) (w.heap.size + 1) [] ((w.alloc (.cells #[.int .i64 5, .bool fl, .int .i64 n, .int .u64 u, .int .u64 b, .string t, .int .i64 pt, .bool pf, .bool pl, .int .i64 pi, .int .i64 pn] 26)).alloc (.cells #[.slice none 0 0, .int .i64 0, .int .i8 0] 129)) := by
    have := fresh_Bf (w.alloc (.cells #[.int .i64 5, .bool fl, .int .i64 n, .int .u64 u, .int .u64 b, .string t, .int .i64 pt, .bool pf, .bool pl, .int .i64 pi, .int .i64 pn] 26)); rwa [World.size_alloc] at this
  have HC := Lib.hid (encI32_any _ _ (wrap32 n) [] _ hF (by decide))
  clear hF
  go_enter Tryd.func27, Tryd.ntmps27
  go_wp2_with (first
    | (go_at_call 74; go_loud (refine HC.out.mono ?_; rintro e_ w1 ⟨rfl, h1, h2⟩; have H1 := Lib.hid h1; have H2 := Lib.hid h2; clear h1 h2))
    | (go_at_call 84; refine (string_any _ _ _ _ H1.out).mono ?_; rintro e_ w2 ⟨rfl, q2, hq⟩; have HQ := Lib.hid (enc_below H2.out hq); clear hq)
    | (go_at_call 63; refine (word_nil _).mono ?_; rintro e_ w3 ⟨rfl, rfl⟩))
  all_goals (go_ret2; exact ⟨rfl, HQ.out⟩)
set_option maxHeartbeats 4000000 in
set_option maxRecDepth 100000 in
theorem encVal_3 (fl : Bool) (n u b : Int) (t : ByteArray) (pt : Int) (pf pl : Bool) (pi pn : Int) (w : World) (hb0 : 0 ≤ b) (hb1 : b < 18446744073709551616) :
    Calls Tryd.prog 27 #[.agg #[.int .i64 3, .bool fl, .int .i64 n, .int .u64 u, .int .u64 b, .string t, .int .i64 pt, .bool pf, .bool pl, .int .i64 pi, .int .i64 pn]] w fun e w' => e = .returned (.tuple #[.string ⟨(Lib.beBytes 8 b.toNat).toArray⟩, .string ⟨#[]⟩]) ∧ Below w.heap.size w w' := by
  have hF : Bf (w.heap.size + 1) (w.heap.size + 1) [] ((w.alloc (.cells #[.int .i64 3, .bool fl, .int .i64 n, .int .u64 u, .int .u64 b, .string t, .int .i64 pt, .bool pf, .bool pl, .int .i64 pi, .int .i64 pn] 26)).alloc (.cells #[.slice none 0 0, .int .i64 0, .int .i8 0] 129)) := by
    have := fresh_Bf (w.alloc (.cells #[.int .i64 3, .bool fl, .int .i64 n, .int .u64 u, .int .u64 b, .string t, .int .i64 pt, .bool pf, .bool pl, .int .i64 pi, .int .i64 pn] 26)); rwa [World.size_alloc] at this
  have HC := Lib.hid (encF64_any _ _ b.toNat [] _ hF (by omega) (by decide))
  have fb : ∀ W, (callFunc 72 #[.int .u64 b]).run Tryd.prog W = .ok (.value (.float .f64 b.toNat)) W := fun _ => by kernel_rfl
  clear hb0 hb1
  clear hF
  go_enter Tryd.func27, Tryd.ntmps27
  go_wp2_with (first
    | (go_at_call 71; go_loud (refine HC.out.mono ?_; rintro e_ w1 ⟨rfl, h1, h2⟩; have H1 := Lib.hid h1; have H2 := Lib.hid h2; clear h1 h2))
    | (go_at_call 84; refine (string_any _ _ _ _ H1.out).mono ?_; rintro e_ w2 ⟨rfl, q2, hq⟩; have HQ := Lib.hid (enc_below H2.out hq); clear hq)
    | (go_at_call 63; refine (word_nil _).mono ?_; rintro e_ w3 ⟨rfl, rfl⟩))
  all_goals (go_ret2; exact ⟨rfl, HQ.out⟩)
set_option maxHeartbeats 4000000 in
set_option maxRecDepth 100000 in
theorem encVal_7 (fl : Bool) (n u b : Int) (t : ByteArray) (pt : Int) (pf pl : Bool) (pi pn : Int) (w : World) (hb0 : 0 ≤ b) (hb1 : b < 18446744073709551616) :
    Calls Tryd.prog 27 #[.agg #[.int .i64 7, .bool fl, .int .i64 n, .int .u64 u, .int .u64 b, .string t, .int .i64 pt, .bool pf, .bool pl, .int .i64 pi, .int .i64 pn]] w fun e w' => e = .returned (.tuple #[.string ⟨(Lib.beBytes 4 (b % 4294967296).toNat).toArray⟩, .string ⟨#[]⟩]) ∧ Below w.heap.size w w' := by
  have hF : Bf (w.heap.size + 1) (w.heap.size + 1) [] ((w.alloc (.cells #[.int .i64 7, .bool fl, .int .i64 n, .int .u64 u, .int .u64 b, .string t, .int .i64 pt, .bool pf, .bool pl, .int .i64 pi, .int .i64 pn] 26)).alloc (.cells #[.slice none 0 0, .int .i64 0, .int .i8 0] 129)) := by
    have := fresh_Bf (w.alloc (.cells #[.int .i64 7, .bool fl, .int .i64 n, .int .u64 u, .int .u64 b, .string t, .int .i64 pt, .bool pf, .bool pl, .int .i64 pi, .int .i64 pn] 26)); rwa [World.size_alloc] at this
  have HC := Lib.hid (encF32_any _ _ (b % 4294967296).toNat [] _ hF (by omega) (by decide))
  have fb : ∀ W, (callFunc 78 #[.int .u32 (b % 4294967296)]).run Tryd.prog W = .ok (.value (.float .f32 (b % 4294967296).toNat)) W := fun _ => by kernel_rfl
  clear hb0 hb1
  clear hF
  go_enter Tryd.func27, Tryd.ntmps27
  go_wp2_with (first
    | (go_at_call 77; go_loud (refine HC.out.mono ?_; rintro e_ w1 ⟨rfl, h1, h2⟩; have H1 := Lib.hid h1; have H2 := Lib.hid h2; clear h1 h2))
    | (go_at_call 84; refine (string_any _ _ _ _ H1.out).mono ?_; rintro e_ w2 ⟨rfl, q2, hq⟩; have HQ := Lib.hid (enc_below H2.out hq); clear hq)
    | (go_at_call 63; refine (word_nil _).mono ?_; rintro e_ w3 ⟨rfl, rfl⟩))
  all_goals (go_ret2; exact ⟨rfl, HQ.out⟩)
end Go.Proofs.YtgdbeiadlgkedaaDoor
