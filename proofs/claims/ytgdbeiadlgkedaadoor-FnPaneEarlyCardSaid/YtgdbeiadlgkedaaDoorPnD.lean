/- Contracts: a pane written into a buffer. -/
import Derived.Test.YtgdbeiadlgkedaaDoorPnB
set_option linter.unusedVariables false
set_option linter.unusedSimpArgs false
namespace Go.Proofs.YtgdbeiadlgkedaaDoor
open Go.RowKit Go.Proofs.YtgdbeiadlgkedaaDoorW.PrintWords Go.Proofs.YtgdbeiadlgkedaaDoorW.PrintLast Go.Proofs.YtgdbeiadlgkedaaDoorW.PrintMore

set_option maxHeartbeats 2000000 in
set_option maxRecDepth 100000 in
theorem encPane_c2 (B b : Nat) (t : Nat) (ht : t < 4) (f l : Bool) (i n : Int) (ht3 : t ≠ 3) (ht0 : t ≠ 0) (hi : i = 0) (hn : n ≠ 0) (l0 : List UInt8) (w : World) (h : Bf B b l0 w) (hlim : l0.length + 100 ≤ 140737488355328) :
    Calls Tryd.prog 75 #[.agg #[.int .u8 t, .bool f, .bool l, .int .i64 i, .int .i64 n], bfI b] w fun e w' => e = .returned .nilIface ∧ Bf B b (l0 ++ ((phead t f l + 32).toUInt8 :: (Lib.uvarint (u64of i) ++ Lib.uvarint (u64of n)))) w' ∧ Below B w w' := by
  have H := Lib.hid h
  have HL := Lib.hid hlim
  have P1 := hd_enc ⟨t, ht⟩ f l
  have O16 := or16 ⟨phead t f l, phead_lt ht f l⟩
  have O32 := or32 ⟨phead t f l, phead_lt ht f l⟩
  have hp := phead_lt ht f l
  simp only at P1 O16 O32
  generalize phead t f l = ph at P1 O16 O32 hp ⊢
  obtain ⟨m16, h16⟩ : ∃ m, ph + 16 = m := ⟨_, rfl⟩
  obtain ⟨m32, h32⟩ : ∃ m, ph + 32 = m := ⟨_, rfl⟩
  rw [h16] at O16
  rw [h32] at O32
  try rw [h16]
  try rw [h32]
  have HM := Lib.hid (And.intro hp (And.intro h16 h32))
  clear h hlim hp h16 h32
  have k3 : ((t : Int) == 3) = false := beq_eq_false_iff_ne.2 (by omega)
  have k0 : ((t : Int) == 0) = false := beq_eq_false_iff_ne.2 (by omega)
  subst hi
  have qn : (n == 0) = false := beq_eq_false_iff_ne.2 (hn)
  have qin : ((0 : Int) == n) = false := beq_eq_false_iff_ne.2 (fun e => hn e.symm)
  clear hn ht3 ht0
  cases f <;> cases l <;> (
    simp only [Bool.false_eq_true, if_false, if_true] at P1
    go_enter Tryd.func75, Tryd.ntmps75
    go_wp2_with (first
      | (go_at_call 132; (refine (one_wr B b l0 m32 (by have := HM.out; omega) w _ H.out (by have := HL.out; omega)).mono ?_; rintro e_ w1 ⟨rfl, h1, h2, h3⟩; have H1 := Lib.hid h1; have H2 := Lib.hid h2; have HX := Lib.hid h3; have x3 := (blk_cell h3 3).trans (rfl : _ = some (Value.int .i64 (0))); have x4 := (blk_cell h3 4).trans (rfl : _ = some (Value.int .i64 (n))); clear h1 h2 h3))
      | (go_at_call 82; (with_reducible refine (encVarI_any B b (0) _ w1 H1.out (by have := HL.out; simp only [List.length_append, List.length_singleton]; omega)).mono ?_); rintro e_ w2 ⟨rfl, h1, h2, h3⟩; have H3 := Lib.hid h1; have H4 := Lib.hid (H2.out.trans h2); have hx := kept100 h3 HX.out (by have := H.out.lt; omega); have x4 := (blk_cell hx 4).trans (rfl : _ = some (Value.int .i64 (n))); clear h1 h2 h3 hx)
      | (go_at_call 82; (with_reducible refine (encVarI_any B b (n) _ w2 H3.out (by have := HL.out; have := Lib.uvarint_length64 (u64of_lt (0)); simp only [List.length_append, List.length_singleton]; omega)).mono ?_); rintro e_ w3 ⟨rfl, h1, h2, _⟩; have H5 := Lib.hid h1; have H6 := Lib.hid (H4.out.trans h2); clear h1 h2))
    go_ret
    exact ⟨rfl, by have h := H5.out; rw [List.append_assoc, List.append_assoc] at h; exact h, H6.out⟩)

set_option maxHeartbeats 2000000 in
set_option maxRecDepth 100000 in
theorem encPane_d1 (B b : Nat) (t : Nat) (ht : t < 4) (f l : Bool) (i n : Int) (ht0 : t = 0) (hi : i ≠ 0) (hin : i ≠ n) (hn : n ≠ -1) (l0 : List UInt8) (w : World) (h : Bf B b l0 w) (hlim : l0.length + 100 ≤ 140737488355328) :
    Calls Tryd.prog 75 #[.agg #[.int .u8 t, .bool f, .bool l, .int .i64 i, .int .i64 n], bfI b] w fun e w' => ∃ a s, e = .returned (errV a) ∧ w'.cell? a = some (.string s) ∧ s.data.toList ≠ [] ∧ Below B w w' ∧ Bf B b l0 w' := by
  have H := Lib.hid h
  have HL := Lib.hid hlim
  have P1 := hd_enc ⟨t, ht⟩ f l
  have O16 := or16 ⟨phead t f l, phead_lt ht f l⟩
  have O32 := or32 ⟨phead t f l, phead_lt ht f l⟩
  have hp := phead_lt ht f l
  simp only at P1 O16 O32
  generalize phead t f l = ph at P1 O16 O32 hp ⊢
  obtain ⟨m16, h16⟩ : ∃ m, ph + 16 = m := ⟨_, rfl⟩
  obtain ⟨m32, h32⟩ : ∃ m, ph + 32 = m := ⟨_, rfl⟩
  rw [h16] at O16
  rw [h32] at O32
  try rw [h16]
  try rw [h32]
  have HM := Lib.hid (And.intro hp (And.intro h16 h32))
  clear h hlim hp h16 h32
  have k3 : ((t : Int) == 3) = false := beq_eq_false_iff_ne.2 (by omega)
  have k0 : ((t : Int) == 0) = true := beq_iff_eq.2 (by omega)
  have qi : (i == 0) = false := beq_eq_false_iff_ne.2 (hi)
  have qin : (i == n) = false := beq_eq_false_iff_ne.2 (hin)
  have qn : (n != -1) = true := bne_iff_ne.2 hn
  clear hi ht0 hin hn
  cases f <;> cases l <;> (
    simp only [Bool.false_eq_true, if_false, if_true] at P1
    go_enter Tryd.func75, Tryd.ntmps75
    go_wp2_with (first
      | (go_at_call 95; refine (errNew_any _ _).mono ?_; rintro e_ w1 ⟨rfl, rfl⟩))
    go_ret
    refine ⟨⟨w.heap.size + 1, 0, none⟩, _, rfl, (blk_cell (two_new w _ _) 0).trans rfl, ?_, (below_alloc (below_alloc (Below.refl w.heap.size w) _) _).mono H.out.size, H.out.old (below_alloc (below_alloc (Below.refl w.heap.size w) _) _)⟩; simp)

set_option maxHeartbeats 2000000 in
set_option maxRecDepth 100000 in
theorem encPane_d2 (B b : Nat) (t : Nat) (ht : t < 4) (f l : Bool) (i n : Int) (ht0 : t = 0) (hi : i = 0) (hn0 : n ≠ 0) (hn : n ≠ -1) (l0 : List UInt8) (w : World) (h : Bf B b l0 w) (hlim : l0.length + 100 ≤ 140737488355328) :
    Calls Tryd.prog 75 #[.agg #[.int .u8 t, .bool f, .bool l, .int .i64 i, .int .i64 n], bfI b] w fun e w' => ∃ a s, e = .returned (errV a) ∧ w'.cell? a = some (.string s) ∧ s.data.toList ≠ [] ∧ Below B w w' ∧ Bf B b l0 w' := by
  have H := Lib.hid h
  have HL := Lib.hid hlim
  have P1 := hd_enc ⟨t, ht⟩ f l
  have O16 := or16 ⟨phead t f l, phead_lt ht f l⟩
  have O32 := or32 ⟨phead t f l, phead_lt ht f l⟩
  have hp := phead_lt ht f l
  simp only at P1 O16 O32
  generalize phead t f l = ph at P1 O16 O32 hp ⊢
  obtain ⟨m16, h16⟩ : ∃ m, ph + 16 = m := ⟨_, rfl⟩
  obtain ⟨m32, h32⟩ : ∃ m, ph + 32 = m := ⟨_, rfl⟩
  rw [h16] at O16
  rw [h32] at O32
  try rw [h16]
  try rw [h32]
  have HM := Lib.hid (And.intro hp (And.intro h16 h32))
  clear h hlim hp h16 h32
  have k3 : ((t : Int) == 3) = false := beq_eq_false_iff_ne.2 (by omega)
  have k0 : ((t : Int) == 0) = true := beq_iff_eq.2 (by omega)
  subst hi
  have qn0 : (n == 0) = false := beq_eq_false_iff_ne.2 (hn0)
  have qin : ((0 : Int) == n) = false := beq_eq_false_iff_ne.2 (fun e => hn0 e.symm)
  have qn : (n != -1) = true := bne_iff_ne.2 hn
  clear ht0 hn0 hn
  cases f <;> cases l <;> (
    simp only [Bool.false_eq_true, if_false, if_true] at P1
    go_enter Tryd.func75, Tryd.ntmps75
    go_wp2_with (first
      | (go_at_call 95; refine (errNew_any _ _).mono ?_; rintro e_ w1 ⟨rfl, rfl⟩))
    go_ret
    refine ⟨⟨w.heap.size + 1, 0, none⟩, _, rfl, (blk_cell (two_new w _ _) 0).trans rfl, ?_, (below_alloc (below_alloc (Below.refl w.heap.size w) _) _).mono H.out.size, H.out.old (below_alloc (below_alloc (Below.refl w.heap.size w) _) _)⟩; simp)
end Go.Proofs.YtgdbeiadlgkedaaDoor
