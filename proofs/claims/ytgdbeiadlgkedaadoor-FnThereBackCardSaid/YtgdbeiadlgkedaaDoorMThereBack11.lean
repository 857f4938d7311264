/- Contracts and plain laws, several texts in one. -/
import Derived.Test.YtgdbeiadlgkedaaDoorMThereBack7
import Derived.Test.YtgdbeiadlgkedaaDoorMThereBack8
import Derived.LoopN
import Derived.Deep.RegionHeld3
set_option linter.unusedVariables false
set_option linter.unusedSimpArgs false
namespace Go.Proofs.YtgdbeiadlgkedaaDoor
open Go.RowKit Go.Proofs.YtgdbeiadlgkedaaDoorW.PrintWords Go.Proofs.YtgdbeiadlgkedaaDoorW.PrintLast Go.Proofs.YtgdbeiadlgkedaaDoorW.PrintMore
set_option maxHeartbeats 2000000 in
set_option maxRecDepth 100000 in
theorem encPane_b2 (B b : Nat) (t : Nat) (ht : t < 4) (f l : Bool) (i n : Int) (ht0 : t = 0) (hi : i ≠ 0) (hi1 : i ≠ -1) (hn : n = -1) (l0 : List UInt8) (w : World) (h : Bf B b l0 w) (hlim : l0.length + 100 ≤ 140737488355328) :
    Calls Tryd.prog 75 #[.agg #[.int .u8 t, .bool f, .bool l, .int .i64 i, .int .i64 n], bfI b] w fun e w' => e = .returned .nilIface ∧ Bf B b (l0 ++ ((phead t f l + 16).toUInt8 :: Lib.uvarint (u64of i))) w' ∧ Below B w w' := by
  have H := Lib.hid h
  have HL := Lib.hid hlim
  have P1 := hd_enc ⟨t, ht⟩ f l
  have O16 := or16 ⟨phead t f l, phead_lt ht f l⟩
  have O32 := or32 ⟨phead t f l, phead_lt ht f l⟩
  have hp := phead_lt ht f l
  simp only at P1 O16 O32
  generalize phead t f l = ph at P1 O16 O32 hp ⊢
  obtain ⟨m16, h16⟩ : ∃ m, ph + 16 = m := ⟨_, rfl⟩
  obtain ⟨m32, h32⟩ : ∃ m, ph + 32 = m := ⟨_, rfl⟩
  rw [h16] at O16
  rw [h32] at O32
  try rw [h16]
  try rw [h32]
  have HM := Lib.hid (And.intro hp (And.intro h16 h32))
  clear h hlim hp h16 h32
  subst hn
  have qi1 : (i == -1) = false := beq_eq_false_iff_ne.2 (hi1)
  have k3 : ((t : Int) == 3) = false := beq_eq_false_iff_ne.2 (by omega)
  have k0 : ((t : Int) == 0) = true := beq_iff_eq.2 (by omega)
  have qi : (i == 0) = false := beq_eq_false_iff_ne.2 (hi)
  clear hi hi1 ht0
  cases f <;> cases l <;> (
    simp only [Bool.false_eq_true, if_false, if_true] at P1
    go_enter Tryd.func75, Tryd.ntmps75
    go_wp2_with (first
      | (go_at_call 132; (refine (one_wr B b l0 m16 (by have := HM.out; omega) w _ H.out (by have := HL.out; omega)).mono ?_; rintro e_ w1 ⟨rfl, h1, h2, h3⟩; have H1 := Lib.hid h1; have H2 := Lib.hid h2; have HX := Lib.hid h3; have x3 := (blk_cell h3 3).trans (rfl : _ = some (Value.int .i64 (i))); have x4 := (blk_cell h3 4).trans (rfl : _ = some (Value.int .i64 (-1))); clear h1 h2 h3))
      | (go_at_call 82; (with_reducible refine (encVarI_any B b (i) _ w1 H1.out (by have := HL.out; simp only [List.length_append, List.length_singleton]; omega)).mono ?_); rintro e_ w2 ⟨rfl, h1, h2, h3⟩; have H3 := Lib.hid h1; have H4 := Lib.hid (H2.out.trans h2); have hx := kept100 h3 HX.out (by have := H.out.lt; omega); have x4 := (blk_cell hx 4).trans (rfl : _ = some (Value.int .i64 (-1))); clear h1 h2 h3 hx))
    go_ret
    exact ⟨rfl, by have h := H3.out; rw [List.append_assoc] at h; exact h, H4.out⟩)
set_option maxHeartbeats 2000000 in
set_option maxRecDepth 100000 in
theorem encPane_b3 (B b : Nat) (t : Nat) (ht : t < 4) (f l : Bool) (i n : Int) (ht0 : t = 0) (hi : i = 0) (hn : n = -1) (l0 : List UInt8) (w : World) (h : Bf B b l0 w) (hlim : l0.length + 100 ≤ 140737488355328) :
    Calls Tryd.prog 75 #[.agg #[.int .u8 t, .bool f, .bool l, .int .i64 i, .int .i64 n], bfI b] w fun e w' => e = .returned .nilIface ∧ Bf B b (l0 ++ ((phead t f l + 16).toUInt8 :: Lib.uvarint (u64of i))) w' ∧ Below B w w' := by
  have H := Lib.hid h
  have HL := Lib.hid hlim
  have P1 := hd_enc ⟨t, ht⟩ f l
  have O16 := or16 ⟨phead t f l, phead_lt ht f l⟩
  have O32 := or32 ⟨phead t f l, phead_lt ht f l⟩
  have hp := phead_lt ht f l
  simp only at P1 O16 O32
  generalize phead t f l = ph at P1 O16 O32 hp ⊢
  obtain ⟨m16, h16⟩ : ∃ m, ph + 16 = m := ⟨_, rfl⟩
  obtain ⟨m32, h32⟩ : ∃ m, ph + 32 = m := ⟨_, rfl⟩
  rw [h16] at O16
  rw [h32] at O32
  try rw [h16]
  try rw [h32]
  have HM := Lib.hid (And.intro hp (And.intro h16 h32))
  clear h hlim hp h16 h32
  subst hn
  subst hi
  have k3 : ((t : Int) == 3) = false := beq_eq_false_iff_ne.2 (by omega)
  have k0 : ((t : Int) == 0) = true := beq_iff_eq.2 (by omega)
  clear ht0
  cases f <;> cases l <;> (
    simp only [Bool.false_eq_true, if_false, if_true] at P1
    go_enter Tryd.func75, Tryd.ntmps75
    go_wp2_with (first
      | (go_at_call 132; (refine (one_wr B b l0 m16 (by have := HM.out; omega) w _ H.out (by have := HL.out; omega)).mono ?_; rintro e_ w1 ⟨rfl, h1, h2, h3⟩; have H1 := Lib.hid h1; have H2 := Lib.hid h2; have HX := Lib.hid h3; have x3 := (blk_cell h3 3).trans (rfl : _ = some (Value.int .i64 (0))); have x4 := (blk_cell h3 4).trans (rfl : _ = some (Value.int .i64 (-1))); clear h1 h2 h3))
      | (go_at_call 82; (with_reducible refine (encVarI_any B b (0) _ w1 H1.out (by have := HL.out; simp only [List.length_append, List.length_singleton]; omega)).mono ?_); rintro e_ w2 ⟨rfl, h1, h2, h3⟩; have H3 := Lib.hid h1; have H4 := Lib.hid (H2.out.trans h2); have hx := kept100 h3 HX.out (by have := H.out.lt; omega); have x4 := (blk_cell hx 4).trans (rfl : _ = some (Value.int .i64 (-1))); clear h1 h2 h3 hx))
    go_ret
    exact ⟨rfl, by have h := H3.out; rw [List.append_assoc] at h; exact h, H4.out⟩)
set_option maxHeartbeats 2000000 in
set_option maxRecDepth 100000 in
theorem encPane_b4 (B b : Nat) (t : Nat) (ht : t < 4) (f l : Bool) (i n : Int) (ht0 : t = 0) (hi : i = -1) (hn : n = -1) (l0 : List UInt8) (w : World) (h : Bf B b l0 w) (hlim : l0.length + 100 ≤ 140737488355328) :
    Calls Tryd.prog 75 #[.agg #[.int .u8 t, .bool f, .bool l, .int .i64 i, .int .i64 n], bfI b] w fun e w' => e = .returned .nilIface ∧ Bf B b (l0 ++ ((phead t f l + 16).toUInt8 :: Lib.uvarint (u64of i))) w' ∧ Below B w w' := by
  have H := Lib.hid h
  have HL := Lib.hid hlim
  have P1 := hd_enc ⟨t, ht⟩ f l
  have O16 := or16 ⟨phead t f l, phead_lt ht f l⟩
  have O32 := or32 ⟨phead t f l, phead_lt ht f l⟩
  have hp := phead_lt ht f l
  simp only at P1 O16 O32
  generalize phead t f l = ph at P1 O16 O32 hp ⊢
  obtain ⟨m16, h16⟩ : ∃ m, ph + 16 = m := ⟨_, rfl⟩
  obtain ⟨m32, h32⟩ : ∃ m, ph + 32 = m := ⟨_, rfl⟩
  rw [h16] at O16
  rw [h32] at O32
  try rw [h16]
  try rw [h32]
  have HM := Lib.hid (And.intro hp (And.intro h16 h32))
  clear h hlim hp h16 h32
  subst hn
  subst hi
  have k3 : ((t : Int) == 3) = false := beq_eq_false_iff_ne.2 (by omega)
  have k0 : ((t : Int) == 0) = true := beq_iff_eq.2 (by omega)
  clear ht0
  cases f <;> cases l <;> (
    simp only [Bool.false_eq_true, if_false, if_true] at P1
    go_enter Tryd.func75, Tryd.ntmps75
    go_wp2_with (first
      | (go_at_call 132; (refine (one_wr B b l0 m16 (by have := HM.out; omega) w _ H.out (by have := HL.out; omega)).mono ?_; rintro e_ w1 ⟨rfl, h1, h2, h3⟩; have H1 := Lib.hid h1; have H2 := Lib.hid h2; have HX := Lib.hid h3; have x3 := (blk_cell h3 3).trans (rfl : _ = some (Value.int .i64 (-1))); have x4 := (blk_cell h3 4).trans (rfl : _ = some (Value.int .i64 (-1))); clear h1 h2 h3))
      | (go_at_call 82; (with_reducible refine (encVarI_any B b (-1) _ w1 H1.out (by have := HL.out; simp only [List.length_append, List.length_singleton]; omega)).mono ?_); rintro e_ w2 ⟨rfl, h1, h2, h3⟩; have H3 := Lib.hid h1; have H4 := Lib.hid (H2.out.trans h2); have hx := kept100 h3 HX.out (by have := H.out.lt; omega); have x4 := (blk_cell hx 4).trans (rfl : _ = some (Value.int .i64 (-1))); clear h1 h2 h3 hx))
    go_ret
    exact ⟨rfl, by have h := H3.out; rw [List.append_assoc] at h; exact h, H4.out⟩)
set_option maxHeartbeats 2000000 in
set_option maxRecDepth 100000 in
theorem encPane_c1 (B b : Nat) (t : Nat) (ht : t < 4) (f l : Bool) (i n : Int) (ht3 : t ≠ 3) (ht0 : t ≠ 0) (hi : i ≠ 0) (hin : i ≠ n) (l0 : List UInt8) (w : World) (h : Bf B b l0 w) (hlim : l0.length + 100 ≤ 140737488355328) :
    Calls Tryd.prog 75 #[.agg #[.int .u8 t, .bool f, .bool l, .int .i64 i, .int .i64 n], bfI b] w fun e w' => e = .returned .nilIface ∧ Bf B b (l0 ++ ((phead t f l + 32).toUInt8 :: (Lib.uvarint (u64of i) ++ Lib.uvarint (u64of n)))) w' ∧ Below B w w' := by
  have H := Lib.hid h
  have HL := Lib.hid hlim
  have P1 := hd_enc ⟨t, ht⟩ f l
  have O16 := or16 ⟨phead t f l, phead_lt ht f l⟩
  have O32 := or32 ⟨phead t f l, phead_lt ht f l⟩
  have hp := phead_lt ht f l
  simp only at P1 O16 O32
  generalize phead t f l = ph at P1 O16 O32 hp ⊢
  obtain ⟨m16, h16⟩ : ∃ m, ph + 16 = m := ⟨_, rfl⟩
  obtain ⟨m32, h32⟩ : ∃ m, ph + 32 = m := ⟨_, rfl⟩
  rw [h16] at O16
  rw [h32] at O32
  try rw [h16]
  try rw [h32]
  have HM := Lib.hid (And.intro hp (And.intro h16 h32))
  clear h hlim hp h16 h32
  have k3 : ((t : Int) == 3) = false := beq_eq_false_iff_ne.2 (by omega)
  have k0 : ((t : Int) == 0) = false := beq_eq_false_iff_ne.2 (by omega)
  have qi : (i == 0) = false := beq_eq_false_iff_ne.2 (hi)
  have qin : (i == n) = false := beq_eq_false_iff_ne.2 (hin)
  clear hi ht3 ht0 hin
  cases f <;> cases l <;> (
    simp only [Bool.false_eq_true, if_false, if_true] at P1
    go_enter Tryd.func75, Tryd.ntmps75
    go_wp2_with (first
      | (go_at_call 132; (refine (one_wr B b l0 m32 (by have := HM.out; omega) w _ H.out (by have := HL.out; omega)).mono ?_; rintro e_ w1 ⟨rfl, h1, h2, h3⟩; have H1 := Lib.hid h1; have H2 := Lib.hid h2; have HX := Lib.hid h3; have x3 := (blk_cell h3 3).trans (rfl : _ = some (Value.int .i64 (i))); have x4 := (blk_cell h3 4).trans (rfl : _ = some (Value.int .i64 (n))); clear h1 h2 h3))
      | (go_at_call 82; (with_reducible refine (encVarI_any B b (i) _ w1 H1.out (by have := HL.out; simp only [List.length_append, List.length_singleton]; omega)).mono ?_); rintro e_ w2 ⟨rfl, h1, h2, h3⟩; have H3 := Lib.hid h1; have H4 := Lib.hid (H2.out.trans h2); have hx := kept100 h3 HX.out (by have := H.out.lt; omega); have x4 := (blk_cell hx 4).trans (rfl : _ = some (Value.int .i64 (n))); clear h1 h2 h3 hx)
      | (go_at_call 82; (with_reducible refine (encVarI_any B b (n) _ w2 H3.out (by have := HL.out; have := Lib.uvarint_length64 (u64of_lt (i)); simp only [List.length_append, List.length_singleton]; omega)).mono ?_); rintro e_ w3 ⟨rfl, h1, h2, _⟩; have H5 := Lib.hid h1; have H6 := Lib.hid (H4.out.trans h2); clear h1 h2))
    go_ret
    exact ⟨rfl, by have h := H5.out; rw [List.append_assoc, List.append_assoc] at h; exact h, H6.out⟩)
end Go.Proofs.YtgdbeiadlgkedaaDoor
set_option linter.unusedVariables false
set_option linter.unusedSimpArgs false
namespace Go.Proofs.YtgdbeiadlgkedaaDoor
open Go.RowKit Go.Proofs.YtgdbeiadlgkedaaDoorW.PrintWords Go.Proofs.YtgdbeiadlgkedaaDoorW.PrintLast Go.Proofs.YtgdbeiadlgkedaaDoorW.PrintMore
set_option maxHeartbeats 2000000 in
set_option maxRecDepth 100000 in
theorem encPane_c2 (B b : Nat) (t : Nat) (ht : t < 4) (f l : Bool) (i n : Int) (ht3 : t ≠ 3) (ht0 : t ≠ 0) (hi : i = 0) (hn : n ≠ 0) (l0 : List UInt8) (w : World) (h : Bf B b l0 w) (hlim : l0.length + 100 ≤ 140737488355328) :
    Calls Tryd.prog 75 #[.agg #[.int .u8 t, .bool f, .bool l, .int .i64 i, .int .i64 n], bfI b] w fun e w' => e = .returned .nilIface ∧ Bf B b (l0 ++ ((phead t f l + 32).toUInt8 :: (Lib.uvarint (u64of i) ++ Lib.uvarint (u64of n)))) w' ∧ Below B w w' := by
  have H := Lib.hid h
  have HL := Lib.hid hlim
  have P1 := hd_enc ⟨t, ht⟩ f l
  have O16 := or16 ⟨phead t f l, phead_lt ht f l⟩
  have O32 := or32 ⟨phead t f l, phead_lt ht f l⟩
  have hp := phead_lt ht f l
  simp only at P1 O16 O32
  generalize phead t f l = ph at P1 O16 O32 hp ⊢
  obtain ⟨m16, h16⟩ : ∃ m, ph + 16 = m := ⟨_, rfl⟩
  obtain ⟨m32, h32⟩ : ∃ m, ph + 32 = m := ⟨_, rfl⟩
  rw [h16] at O16
  rw [h32] at O32
  try rw [h16]
  try rw [h32]
  have HM := Lib.hid (And.intro hp (And.intro h16 h32))
  clear h hlim hp h16 h32
  have k3 : ((t : Int) == 3) = false := beq_eq_false_iff_ne.2 (by omega)
  have k0 : ((t : Int) == 0) = false := beq_eq_false_iff_ne.2 (by omega)
  subst hi
  have qn : (n == 0) = false := beq_eq_false_iff_ne.2 (hn)
  have qin : ((0 : Int) == n) = false := beq_eq_false_iff_ne.2 (fun e => hn e.symm)
  clear hn ht3 ht0
  cases f <;> cases l <;> (
    simp only [Bool.false_eq_true, if_false, if_true] at P1
    go_enter Tryd.func75, Tryd.ntmps75
    go_wp2_with (first
      | (go_at_call 132; (refine (one_wr B b l0 m32 (by have := HM.out; omega) w _ H.out (by have := HL.out; omega)).mono ?_; rintro e_ w1 ⟨rfl, h1, h2, h3⟩; have H1 := Lib.hid h1; have H2 := Lib.hid h2; have HX := Lib.hid h3; have x3 := (blk_cell h3 3).trans (rfl : _ = some (Value.int .i64 (0))); have x4 := (blk_cell h3 4).trans (rfl : _ = some (Value.int .i64 (n))); clear h1 h2 h3))
      | (go_at_call 82; (with_reducible refine (encVarI_any B b (0) _ w1 H1.out (by have := HL.out; simp only [List.length_append, List.length_singleton]; omega)).mono ?_); rintro e_ w2 ⟨rfl, h1, h2, h3⟩; have H3 := Lib.hid h1; have H4 := Lib.hid (H2.out.trans h2); have hx := kept100 h3 HX.out (by have := H.out.lt; omega); have x4 := (blk_cell hx 4).trans (rfl : _ = some (Value.int .i64 (n))); clear h1 h2 h3 hx)
      | (go_at_call 82; (with_reducible refine (encVarI_any B b (n) _ w2 H3.out (by have := HL.out; have := Lib.uvarint_length64 (u64of_lt (0)); simp only [List.length_append, List.length_singleton]; omega)).mono ?_); rintro e_ w3 ⟨rfl, h1, h2, _⟩; have H5 := Lib.hid h1; have H6 := Lib.hid (H4.out.trans h2); clear h1 h2))
    go_ret
    exact ⟨rfl, by have h := H5.out; rw [List.append_assoc, List.append_assoc] at h; exact h, H6.out⟩)
end Go.Proofs.YtgdbeiadlgkedaaDoor
set_option linter.unusedVariables false
set_option linter.unusedSimpArgs false
namespace Go.Proofs.YtgdbeiadlgkedaaDoor
open Go.RowKit Go.Proofs.YtgdbeiadlgkedaaDoorW.PrintWords Go.Proofs.YtgdbeiadlgkedaaDoorW.PrintLast Go.Proofs.YtgdbeiadlgkedaaDoorW.PrintMore
theorem encPane_ok (B b : Nat) (t : Nat) (ht : t < 4) (f l : Bool) (i n : Int) (hok : t = 0 → n = -1 ∨ (i = 0 ∧ n = 0)) (l0 : List UInt8) (w : World) (h : Bf B b l0 w) (hlim : l0.length + 100 ≤ 140737488355328) :
    Calls Tryd.prog 75 #[.agg #[.int .u8 t, .bool f, .bool l, .int .i64 i, .int .i64 n], bfI b] w fun e w' => e = .returned .nilIface ∧ Bf B b (l0 ++ pbytes t f l i n) w' ∧ Below B w w' := by
  unfold pbytes
  by_cases c1 : (i = 0 ∧ n = 0) ∨ t = 3
  · rw [if_pos c1]
    by_cases hi : i = 0
    · by_cases hn : n = 0
      · exact encPane_a1 B b t ht f l i n hi hn l0 w h hlim
      · exact encPane_a3 B b t ht f l i n (by omega) hi hn l0 w h hlim
    · exact encPane_a2 B b t ht f l i n (by omega) hi l0 w h hlim
  · rw [if_neg c1]
    by_cases c2 : i = n ∨ t = 0
    · rw [if_pos c2]
      by_cases t0 : t = 0
      · have hn : n = -1 := by have := hok t0; omega
        by_cases hi : i = 0
        · exact encPane_b3 B b t ht f l i n t0 hi hn l0 w h hlim
        · by_cases hi1 : i = -1
          · exact encPane_b4 B b t ht f l i n t0 hi1 hn l0 w h hlim
          · exact encPane_b2 B b t ht f l i n t0 hi hi1 hn l0 w h hlim
      · exact encPane_b1 B b t ht f l i n (by omega) t0 (by omega) (by omega) l0 w h hlim
    · rw [if_neg c2]
      by_cases hi : i = 0
      · exact encPane_c2 B b t ht f l i n (by omega) (by omega) hi (by omega) l0 w h hlim
      · exact encPane_c1 B b t ht f l i n (by omega) (by omega) hi (by omega) l0 w h hlim
set_option maxHeartbeats 4000000 in
set_option maxRecDepth 100000 in
theorem pane_any (t : Nat) (f l : Bool) (i n : Int) (ht : t < 4) (w : World) :
    Calls Tryd.prog 76 #[.agg #[.int .i64 t, .bool f, .bool l, .int .i64 i, .int .i64 n]] w fun e w' => e = .returned (.agg #[.int .u8 t, .bool f, .bool l, .int .i64 i, .int .i64 n]) ∧ Below w.heap.size w w' := by
  have q1 : (t : Int) % 256 = (t : Int) := by omega
  go_enter Tryd.func76, Tryd.ntmps76
  go_wp2
  go_returns
  exact ⟨rfl, by repeat (first | exact Below.refl _ _ | apply below_alloc | apply below_drew | refine below_set ?_ (by simp) | (refine Below.setCell ?_ (by simp) _))⟩
end Go.Proofs.YtgdbeiadlgkedaaDoor
set_option linter.unusedVariables false
set_option linter.unusedSimpArgs false
namespace Go.Proofs.YtgdbeiadlgkedaaDoor
open Go.RowKit Go.Proofs.YtgdbeiadlgkedaaDoorW.PrintWords Go.Proofs.YtgdbeiadlgkedaaDoorW.PrintLast Go.Proofs.YtgdbeiadlgkedaaDoorW.PrintMore
theorem enc_below3 {w w1 w2 w3 : World} {o o2 : Obj} {k : Nat} (h0 : Below ((w.alloc o).alloc o2).heap.size ((w.alloc o).alloc o2) w1) (h : Below (w.heap.size + 1) w1 w2) (h3 : w3 = w2.drewN k) : Below w.heap.size w w3 := by
  subst h3
  have a : Below w.heap.size w w1 := (((Below.refl _ w).alloc (Nat.le_refl _) o).alloc (by simp) o2).trans (h0.mono (by simp; omega))
  have h1 := a.trans (h.mono (by omega))
  exact ⟨h1.os, h1.tape, h1.output, h1.size, h1.block⟩
set_option maxHeartbeats 4000000 in
set_option maxRecDepth 100000 in
theorem encVal_6 (fl : Bool) (m u bb : Int) (tx : ByteArray) (t : Nat) (f l : Bool) (i n : Int) (ht : t < 4) (hok : t = 0 → n = -1 ∨ (i = 0 ∧ n = 0)) (w : World) :
    Calls Tryd.prog 27 #[.agg #[.int .i64 6, .bool fl, .int .i64 m, .int .u64 u, .int .u64 bb, .string tx, .int .i64 t, .bool f, .bool l, .int .i64 i, .int .i64 n]] w fun e w' => e = .returned (.tuple #[.string ⟨(pbytes t f l i n).toArray⟩, .string ⟨#[]⟩]) ∧ Below w.heap.size w w' := by
  have hF : Bf (w.heap.size + 1) (w.heap.size + 1) [] ((w.alloc (.cells #[.int .i64 6, .bool fl, .int .i64 m, .int .u64 u, .int .u64 bb, .string tx, .int .i64 t, .bool f, .bool l, .int .i64 i, .int .i64 n] 26)).alloc (.cells #[.slice none 0 0, .int .i64 0, .int .i8 0] 129)) := by
    have := fresh_Bf (w.alloc (.cells #[.int .i64 6, .bool fl, .int .i64 m, .int .u64 u, .int .u64 bb, .string tx, .int .i64 t, .bool f, .bool l, .int .i64 i, .int .i64 n] 26)); rwa [World.size_alloc] at this
  have HF := Lib.hid hF
  have HT := Lib.hid ht
  have HO := Lib.hid hok
  clear ht hok
  clear hF
  go_enter Tryd.func27, Tryd.ntmps27
  go_wp2_with (first
    | (go_at_call 76; (with_reducible refine (pane_any t f l i n HT.out _).mono ?_); rintro e_ w1 ⟨rfl, hb⟩; have HB := Lib.hid hb; have HF1 := Lib.hid (HF.out.old hb); clear hb)
    | (go_at_call 75; (with_reducible refine (encPane_ok _ _ t HT.out f l i n HO.out [] w1 HF1.out (by decide)).mono ?_); rintro e_ w2 ⟨rfl, h1, h2⟩; have H1 := Lib.hid h1; have H2 := Lib.hid h2; clear h1 h2)
    | (go_at_call 84; refine (string_any _ _ _ _ H1.out).mono ?_; rintro e_ w3 ⟨rfl, q2, hq⟩; have HQ := Lib.hid (enc_below3 HB.out H2.out hq); clear hq)
    | (go_at_call 63; refine (word_nil _).mono ?_; rintro e_ w4 ⟨rfl, rfl⟩))
  all_goals (go_ret2; exact ⟨rfl, HQ.out⟩)
end Go.Proofs.YtgdbeiadlgkedaaDoor
set_option linter.unusedVariables false
set_option linter.unusedSimpArgs false
namespace Go.Proofs.YtgdbeiadlgkedaaDoor
open Go.RowKit Go.Proofs.YtgdbeiadlgkedaaDoorW.PrintWords Go.Proofs.YtgdbeiadlgkedaaDoorW.PrintLast Go.Proofs.YtgdbeiadlgkedaaDoorW.PrintMore
def SB (t : ByteArray) (w : World) (o : Obj) (w' : World) : Prop := w'.cell? ⟨w.heap.size, 5, none⟩ = some (.string t) ∧ w'.heap[w.heap.size]? = some o ∧ Below w.heap.size w w'
theorem SB.start (t : ByteArray) (w : World) (cs : Array Value) (h : cs[5]? = some (.string t)) : SB t w (.cells cs 37) (w.alloc (.cells cs 37)).drew :=
  ⟨(blk_cell (heap_alloc_new w (.cells cs 37)) 5).trans h, heap_alloc_new w (.cells cs 37), below_drew (below_alloc (Below.refl _ w) _)⟩
theorem SB.step {t : ByteArray} {w x y : World} {o : Obj} (h : SB t w o x) (hb : Below x.heap.size x y) : SB t w o y := by
  obtain ⟨h1, h2, h3⟩ := h
  have hl := blk_lt h2
  exact ⟨(hb.cell (p := ⟨w.heap.size, 5, none⟩) hl).trans h1, (hb.block _ hl).trans h2, below_then h3 h3.size hb⟩
theorem str_ext0 {s : ByteArray} {l : List UInt8} (h : s.data.toList = l) : s = ⟨l.toArray⟩ := by
  cases s with
  | mk d => simp only at h; subst h; simp
end Go.Proofs.YtgdbeiadlgkedaaDoor
set_option linter.unusedVariables false
set_option linter.unusedSimpArgs false
namespace Go.Proofs.YtgdbeiadlgkedaaDoor
open Go.RowKit PFnEncode Go.Proofs.YtgdbeiadlgkedaaDoorW.PrintWords Go.Proofs.YtgdbeiadlgkedaaDoorW.PrintLast Go.Proofs.YtgdbeiadlgkedaaDoorW.PrintMore
theorem cells11 {w : World} {k T : Nat} {v0 v1 v2 v3 v4 v5 v6 v7 v8 v9 v10 : Value} (h : w.heap[k]? = some (.cells #[v0, v1, v2, v3, v4, v5, v6, v7, v8, v9, v10] T (0, 0))) : w.cell? ⟨k, 0, none⟩ = some v0 ∧ w.cell? ⟨k, 1, none⟩ = some v1 ∧ w.cell? ⟨k, 2, none⟩ = some v2 ∧ w.cell? ⟨k, 3, none⟩ = some v3 ∧ w.cell? ⟨k, 4, none⟩ = some v4 ∧ w.cell? ⟨k, 5, none⟩ = some v5 ∧ w.cell? ⟨k, 6, none⟩ = some v6 ∧ w.cell? ⟨k, 7, none⟩ = some v7 ∧ w.cell? ⟨k, 8, none⟩ = some v8 ∧ w.cell? ⟨k, 9, none⟩ = some v9 ∧ w.cell? ⟨k, 10, none⟩ = some v10 :=
  ⟨(blk_cell h 0).trans rfl, (blk_cell h 1).trans rfl, (blk_cell h 2).trans rfl, (blk_cell h 3).trans rfl, (blk_cell h 4).trans rfl, (blk_cell h 5).trans rfl, (blk_cell h 6).trans rfl, (blk_cell h 7).trans rfl, (blk_cell h 8).trans rfl, (blk_cell h 9).trans rfl, (blk_cell h 10).trans rfl⟩
theorem dsplit {P : Prop} [Decidable P] {o : Option Bool} (h : o = some (decide P)) : (o = some true ∧ P) ∨ o = some false := by
  by_cases hp : P
  · exact .inl ⟨by rw [h, decide_eq_true hp], hp⟩
  · exact .inr (by rw [h, decide_eq_false hp])
theorem codOf_eq (a0 : Int) (fl : Bool) (n u b : Int) (t : ByteArray) (pt : Int) (pf pl : Bool) (pi pn : Int) : laws_codOf.f a0 fl n u b t pt pf pl pi pn = some (a0, fl, n, u, b, t, pt, pf, pl, pi, pn) := rfl
end Go.Proofs.YtgdbeiadlgkedaaDoor
