/- Contracts and plain laws, several texts in one. -/
import Derived.Test.YtgdbeiadlgkedaaDoorMRowBack3
import Derived.Test.YtgdbeiadlgkedaaDoorPFnRowHeaderx0
/- Functions' contracts as print.sh printed them, those alone that are wanted. -/
set_option linter.unusedVariables false
set_option linter.unusedSimpArgs false
namespace Go.Proofs.YtgdbeiadlgkedaaDoor.PFnRowHeader
open Go.RowKit Go.Proofs.YtgdbeiadlgkedaaDoorW.PrintWords Go.Proofs.YtgdbeiadlgkedaaDoorW.PrintLast Go.Proofs.YtgdbeiadlgkedaaDoorW.PrintMore
/-! ### spec_CodVarint: function 32 -/
def spec_CodVarint.l0 : Nat → Int → ByteArray → Option (ByteArray)
  | 0, _, _ => none
  | k + 1, x0, x3 => if x0 ≥ 128 then ((some (([Go.bits .or .u8 ((x0) % 256) 128] : List Int) : List Int)).bind fun y119 => (if x3.size + (strOfNums y119).size ≤ 9223372036854775807 then (spec_CodVarint.l0 k (x0 / 128) (x3 ++ (strOfNums y119))) else (none))) else ((some (([(x0) % 256] : List Int) : List Int)).bind fun y122 => (if x3.size + (strOfNums y122).size ≤ 9223372036854775807 then (some (x3 ++ (strOfNums y122))) else (none)))
def spec_CodVarint.f (k : Nat) (a0 : Int) : Option (ByteArray) := spec_CodVarint.l0 k a0 (⟨#[]⟩ : ByteArray)
theorem spec_CodVarint.mono_l : ∀ k, (∀ y0 y1, LeO (spec_CodVarint.l0 k y0 y1) (spec_CodVarint.l0 (k + 1) y0 y1))
  | 0 => fun _ _ r h => by simp [spec_CodVarint.l0] at h
  | k + 1 => by
    have ih0 := spec_CodVarint.mono_l k
    · intro y0 y1
      unfold spec_CodVarint.l0
      repeat' first
      | (with_reducible exact ih0 _ _)
      | (with_reducible exact LeO.refl _)
      | (with_reducible exact LeO.none _)
      | (with_reducible refine LeO.ite ?_ ?_)
      | (with_reducible refine LeO.bind ?_ (fun _ => ?_))
      | exact ih0 _ _
      | exact LeO.none _
      | refine LeO.ite ?_ ?_
      | refine LeO.bind ?_ (fun _ => ?_)
theorem spec_CodVarint.mono : ∀ a0 k, LeO (spec_CodVarint.f k a0) (spec_CodVarint.f (k + 1) a0) := by
  intro a0 k
  have ih0 := spec_CodVarint.mono_l k
  unfold spec_CodVarint.f
  repeat' first
      | (with_reducible exact ih0 _ _)
      | (with_reducible exact LeO.refl _)
      | (with_reducible exact LeO.none _)
      | (with_reducible refine LeO.ite ?_ ?_)
      | (with_reducible refine LeO.bind ?_ (fun _ => ?_))
      | exact ih0 _ _
      | exact LeO.none _
      | refine LeO.ite ?_ ?_
      | refine LeO.bind ?_ (fun _ => ?_)
set_option maxHeartbeats 8000000 in
set_option maxRecDepth 100000 in
theorem spec_CodVarint.calls (k : Nat) (a0 : Int) (r : ByteArray) (w : World) (h : spec_CodVarint.f k a0 = some r) :
    Calls Tryd.prog 32 #[.int .u64 a0] w fun e w' => e = .returned (.string r) ∧ Below w.heap.size w w' := by
  have HB := Aside0.mk (Below.refl w.heap.size w)
  have H : (spec_CodVarint.l0 k a0 (⟨#[]⟩ : ByteArray)) = some r := h
  clear h
  have H' := Aside0.mk H
  clear H
  go_enter Tryd.func32, Tryd.ntmps32
  go_wp2
  go_loopg [0, 3] k (fun kq v0 v3 w' => ∃ (x0_1 : Int) (x3_1 : ByteArray), v0 = .int .u64 x0_1 ∧ v3 = .string x3_1 ∧ Aside0 (spec_CodVarint.l0 kq x0_1 x3_1 = some r) ∧ Aside0 (kq ≤ k) ∧ Aside0 (Below w.heap.size w w'))
  case atStart => exact ⟨(a0), ((⟨#[]⟩ : ByteArray)), (by first | rfl | (simp; done) | (simp [*]; done)), (by first | rfl | (simp; done) | (simp [*]; done)), H', ⟨Nat.le_refl _⟩, ⟨by repeat (first | (with_reducible first | exact HB.out | apply below_alloc | apply pw_below_drewN | apply below_drew1) | exact HB.out)⟩⟩
  case round =>
    clear H'
    obtain ⟨x0_1, x3_1, rfl, rfl, HA, HK1, HB⟩ := hrel
    cases gk with
    | zero => exact absurd HA.out (by simp [spec_CodVarint.l0])
    | succ k1 =>
      have H := HA.out
      clear HA
      simp only [spec_CodVarint.l0] at H
      by_cases c2 : x0_1 ≥ 128
      · rw [if_pos c2] at H
        have c2b0 : decide (128 ≤ x0_1) = true := decide_eq_true c2
        clear c2
        obtain ⟨y119, hy119⟩ : ∃ y_ : List Int, y_ = (([Go.bits .or .u8 ((x0_1) % 256) 128] : List Int)) := ⟨_, rfl⟩
        replace H : (if x3_1.size + (strOfNums y119).size ≤ 9223372036854775807 then (spec_CodVarint.l0 k1 (x0_1 / 128) (x3_1 ++ (strOfNums y119))) else (none)) = some r := by first | (rw [hy119]; with_reducible exact H) | (have H2_ := (Option.bind_some _ _).symm.trans H; rw [hy119]; with_reducible exact H2_) | (have H2_ := (Option.bind_some _ _).symm.trans H; with_reducible exact H2_) | with_reducible exact H | (rw [hy119]; exact H) | exact H
        have Ny119 := Aside0.mk hy119
        clear hy119
        by_cases c3 : x3_1.size + (strOfNums y119).size ≤ 9223372036854775807
        · rw [if_pos c3] at H
          have c3b0 := eq_true c3
          have c3b1 : decide (x3_1.size + (strOfNums y119).size ≤ 9223372036854775807) = true := decide_eq_true c3
          try have c3b2 : (9223372036854775807 < x3_1.size + (strOfNums y119).size) = False := eq_false (Nat.not_lt.2 c3)
          try (have c3b3 := c3b2; simp only [ByteArray.size_append] at c3b3)
          have H' := Aside0.mk H
          clear H
          go_wp2_with (first | ((with_reducible refine gate_dst (N := 10) rfl ?_); refine Kd.R_lit (Kd.int .u8) _ 5 ?hg (N := 10) ?hd (xs := ([Go.bits .or .u8 ((x0_1) % 256) 128] : List Int)) (inner := [.int .u8 (Go.bits .or .u8 ((x0_1) % 256) 128)]) (ok := fun _ => True) (okp := fun _ => True) ?hr ?hp (fun _ hk => hk) trivial (Below.refl _ _) (Nat.le_refl _) (by simp) ?_; (case hd => rfl); (case hg => rfl); (case hr => first | (go_simp; done) | (go_simp; rfl)); (case hp => exact (Reps.one (show Kd.M (Kd.int .u8) _ _ _ (Go.bits .or .u8 ((x0_1) % 256) 128) [.int .u8 (Go.bits .or .u8 ((x0_1) % 256) 128)] from rfl) (Reps.none _ _))); intro v120 w4 ho5 hb hg_ hnew_; clear hg_ hnew_; (first | rw [← Ny119.out] at ho5 | (simp only [Int.reduceToNat] at ho5; rw [← Ny119.out] at ho5)); have n0_ := Aside0.mk (Kd.R_lower ho5 (below_size (by repeat (first | (with_reducible first | exact HB.out | apply below_alloc | apply pw_below_drewN | apply below_drew1) | exact HB.out)))); have n1_ := Aside0.mk (below_step (by repeat (first | (with_reducible first | exact HB.out | apply below_alloc | apply pw_below_drewN | apply below_drew1) | exact HB.out)) hb); clear HB; have HO121 := n0_; have HB := n1_; clear n0_ n1_; clear hb ho5; have hcv6 := own_string (P := Tryd.prog) Tryd.underlying29 Tryd.underlying5 Tryd.underlying9 (Kd.own_of_R HO121.out)))
          go_roundg k1
          case measure => have := HK1.out; omega
          case rel => exact ⟨(x0_1 / 128), (x3_1 ++ (strOfNums y119)), (by first | rfl | (simp; done) | (simp [*]; done)), (by first | rfl | (simp; done) | (simp [*]; done)), H', ⟨by have := HK1.out; omega⟩, ⟨by repeat (first | (with_reducible first | exact HB.out | apply below_alloc | apply pw_below_drewN | apply below_drew1) | exact HB.out)⟩⟩
        · rw [if_neg c3] at H
          exact absurd H (by simp)
      · rw [if_neg c2] at H
        have c2b0 : decide (128 ≤ x0_1) = false := decide_eq_false c2
        clear c2
        obtain ⟨y122, hy122⟩ : ∃ y_ : List Int, y_ = (([(x0_1) % 256] : List Int)) := ⟨_, rfl⟩
        replace H : (if x3_1.size + (strOfNums y122).size ≤ 9223372036854775807 then (some (x3_1 ++ (strOfNums y122))) else (none)) = some r := by first | (rw [hy122]; with_reducible exact H) | (have H2_ := (Option.bind_some _ _).symm.trans H; rw [hy122]; with_reducible exact H2_) | (have H2_ := (Option.bind_some _ _).symm.trans H; with_reducible exact H2_) | with_reducible exact H | (rw [hy122]; exact H) | exact H
        have Ny122 := Aside0.mk hy122
        clear hy122
        by_cases c7 : x3_1.size + (strOfNums y122).size ≤ 9223372036854775807
        · rw [if_pos c7] at H
          have c7b0 := eq_true c7
          have c7b1 : decide (x3_1.size + (strOfNums y122).size ≤ 9223372036854775807) = true := decide_eq_true c7
          try have c7b2 : (9223372036854775807 < x3_1.size + (strOfNums y122).size) = False := eq_false (Nat.not_lt.2 c7)
          try (have c7b3 := c7b2; simp only [ByteArray.size_append] at c7b3)
          obtain rfl := Option.some.inj H
          go_wp2_with (first | ((with_reducible refine gate_dst (N := 18) rfl ?_); refine Kd.R_lit (Kd.int .u8) _ 5 ?hg (N := 18) ?hd (xs := ([(x0_1) % 256] : List Int)) (inner := [.int .u8 ((x0_1) % 256)]) (ok := fun _ => True) (okp := fun _ => True) ?hr ?hp (fun _ hk => hk) trivial (Below.refl _ _) (Nat.le_refl _) (by simp) ?_; (case hd => rfl); (case hg => rfl); (case hr => first | (go_simp; done) | (go_simp; rfl)); (case hp => exact (Reps.one (show Kd.M (Kd.int .u8) _ _ _ ((x0_1) % 256) [.int .u8 ((x0_1) % 256)] from rfl) (Reps.none _ _))); intro v123 w8 ho9 hb hg_ hnew_; clear hg_ hnew_; (first | rw [← Ny122.out] at ho9 | (simp only [Int.reduceToNat] at ho9; rw [← Ny122.out] at ho9)); have n0_ := Aside0.mk (Kd.R_lower ho9 (below_size (by repeat (first | (with_reducible first | exact HB.out | apply below_alloc | apply pw_below_drewN | apply below_drew1) | exact HB.out)))); have n1_ := Aside0.mk (below_step (by repeat (first | (with_reducible first | exact HB.out | apply below_alloc | apply pw_below_drewN | apply below_drew1) | exact HB.out)) hb); clear HB; have HO124 := n0_; have HB := n1_; clear n0_ n1_; clear hb ho9; have hcv10 := own_string (P := Tryd.prog) Tryd.underlying29 Tryd.underlying5 Tryd.underlying9 (Kd.own_of_R HO124.out)))
          go_ret
          exact ⟨by first | rfl | (simp [errW_none, errW_some] <;> rfl) | (simp [*, errW_none, errW_some] <;> rfl), by repeat (first | (with_reducible first | exact HB.out | apply below_alloc | apply pw_below_drewN | apply below_drew1) | exact HB.out)⟩
        · rw [if_neg c7] at H
          exact absurd H (by simp)

/-! ### spec_CodRowHead: function 42 -/
mutual
def spec_CodRowHead.l0 : Nat → Int → List Bool → Int → List Bool → Int → Int → Option (ByteArray)
  | 0, _, _, _, _, _, _ => none
  | k + 1, x0, x1, x5, x11, x12, x13 => if x13 < x12 then (if 0 ≤ x13 then (if x13 < (x11.length : Int) then (if rdOf false x11 x13 = true then (spec_CodRowHead.l0 k x0 x1 x13 x11 x12 (wrap64 (x13 + 1))) else (spec_CodRowHead.l0 k x0 x1 x5 x11 x12 (wrap64 (x13 + 1)))) else (none)) else (none)) else (if 0 ≤ (wrap64 (Int.tdiv (wrap64 (x5 + 8)) 8)) then (if (wrap64 (Int.tdiv (wrap64 (x5 + 8)) 8) : Int).toNat ≤ 281474976710656 then (spec_CodRowHead.l1 k x0 (List.replicate (wrap64 (Int.tdiv (wrap64 (x5 + 8)) 8) : Int).toNat 0) x1 (x1.length : Int) 0) else (none)) else (none))
def spec_CodRowHead.l1 : Nat → Int → List Int → List Bool → Int → Int → Option (ByteArray)
  | 0, _, _, _, _, _ => none
  | k + 1, x0, x8, x25, x26, x27 => if x27 < x26 then (if 0 ≤ x27 then (if x27 < (x25.length : Int) then (if rdOf false x25 x27 = true then (if 0 ≤ (wrap64 (Int.tdiv x27 8)) then (if (wrap64 (Int.tdiv x27 8)) < (x8.length : Int) then (if 0 ≤ (Int.tmod x27 8) then (spec_CodRowHead.l1 k x0 (x8.set ((wrap64 (Int.tdiv x27 8)) : Int).toNat (Go.bits .or .u8 (rd x8 (wrap64 (Int.tdiv x27 8))) (shl .u8 1 (Int.tmod x27 8)))) x25 x26 (wrap64 (x27 + 1))) else (none)) else (none)) else (none)) else (spec_CodRowHead.l1 k x0 x8 x25 x26 (wrap64 (x27 + 1)))) else (none)) else (none)) else ((spec_CodVarint.f k (IntKind.u64.wrap (x0))).bind fun t132 => ((spec_CodVarint.f k (IntKind.u64.wrap ((x8.length : Int)))).bind fun t133 => (if t132.size + t133.size ≤ 9223372036854775807 then (if (t132 ++ t133).size + (strOfNums x8).size ≤ 9223372036854775807 then (some ((t132 ++ t133) ++ (strOfNums x8))) else (none)) else (none))))
end
def spec_CodRowHead.f (k : Nat) (a0 : Int) (l1 : List Bool) : Option (ByteArray) := spec_CodRowHead.l0 k a0 l1 (-1) l1 (l1.length : Int) 0
theorem spec_CodRowHead.mono_l : ∀ k, (∀ y0 y1 y2 y3 y4 y5, LeO (spec_CodRowHead.l0 k y0 y1 y2 y3 y4 y5) (spec_CodRowHead.l0 (k + 1) y0 y1 y2 y3 y4 y5)) ∧ (∀ y0 y1 y2 y3 y4, LeO (spec_CodRowHead.l1 k y0 y1 y2 y3 y4) (spec_CodRowHead.l1 (k + 1) y0 y1 y2 y3 y4))
  | 0 => ⟨fun _ _ _ _ _ _ r h => by simp [spec_CodRowHead.l0] at h, fun _ _ _ _ _ r h => by simp [spec_CodRowHead.l1] at h⟩
  | k + 1 => by
    obtain ⟨ih0, ih1⟩ := spec_CodRowHead.mono_l k
    refine ⟨?_, ?_⟩
    · intro y0 y1 y2 y3 y4 y5
      unfold spec_CodRowHead.l0
      repeat' first
      | (with_reducible exact ih0 _ _ _ _ _ _)
      | (with_reducible exact ih1 _ _ _ _ _)
      | (with_reducible exact spec_CodVarint.mono _ _)
      | (with_reducible exact LeO.refl _)
      | (with_reducible exact LeO.none _)
      | (with_reducible refine LeO.ite ?_ ?_)
      | (with_reducible refine LeO.bind ?_ (fun _ => ?_))
      | exact ih0 _ _ _ _ _ _
      | exact ih1 _ _ _ _ _
      | exact spec_CodVarint.mono _ _
      | exact LeO.none _
      | refine LeO.ite ?_ ?_
      | refine LeO.bind ?_ (fun _ => ?_)
    · intro y0 y1 y2 y3 y4
      unfold spec_CodRowHead.l1
      repeat' first
      | (with_reducible exact ih0 _ _ _ _ _ _)
      | (with_reducible exact ih1 _ _ _ _ _)
      | (with_reducible exact spec_CodVarint.mono _ _)
      | (with_reducible exact LeO.refl _)
      | (with_reducible exact LeO.none _)
      | (with_reducible refine LeO.ite ?_ ?_)
      | (with_reducible refine LeO.bind ?_ (fun _ => ?_))
      | exact ih0 _ _ _ _ _ _
      | exact ih1 _ _ _ _ _
      | exact spec_CodVarint.mono _ _
      | exact LeO.none _
      | refine LeO.ite ?_ ?_
      | refine LeO.bind ?_ (fun _ => ?_)
theorem spec_CodRowHead.mono : ∀ a0 a1 k, LeO (spec_CodRowHead.f k a0 a1) (spec_CodRowHead.f (k + 1) a0 a1) := by
  intro a0 a1 k
  obtain ⟨ih0, ih1⟩ := spec_CodRowHead.mono_l k
  unfold spec_CodRowHead.f
  repeat' first
      | (with_reducible exact ih0 _ _ _ _ _ _)
      | (with_reducible exact ih1 _ _ _ _ _)
      | (with_reducible exact spec_CodVarint.mono _ _)
      | (with_reducible exact LeO.refl _)
      | (with_reducible exact LeO.none _)
      | (with_reducible refine LeO.ite ?_ ?_)
      | (with_reducible refine LeO.bind ?_ (fun _ => ?_))
      | exact ih0 _ _ _ _ _ _
      | exact ih1 _ _ _ _ _
      | exact spec_CodVarint.mono _ _
      | exact LeO.none _
      | refine LeO.ite ?_ ?_
      | refine LeO.bind ?_ (fun _ => ?_)
def spec_CodRowHead.T13 : Bool × List (List Nat × List Nat) := (true, [([], []), ([], []), ([1], [1]), ([0, 2], [0, 2]), ([3], [3]), ([], []), ([5], [5]), ([6], [6]), ([4, 7], [4, 7]), ([0, 2, 0, 1, 2, 3, 4, 5, 6, 7, 8], [0, 2]), ([9, 8, 0, 1, 2, 3, 4, 5, 6, 7, 8], [8, 9])])
def spec_CodRowHead.B13 : List Nat := [0, 0, 2, 7, 15, 0, 32, 96, 255, 511, 1023]
theorem spec_CodRowHead.tab13 : rtab .any (opsOf Tryd.f42 13) = spec_CodRowHead.T13 := by kernel_rfl
theorem spec_CodRowHead.bits13 : waitsOk spec_CodRowHead.T13.2 spec_CodRowHead.B13 = true := by kernel_rfl
def spec_CodRowHead.T15 : Bool × List (List Nat × List Nat) := (true, [([], []), ([0], [0]), ([1], [1]), ([], []), ([3], [3]), ([4], [4]), ([5, 2], [5]), ([2, 6], [2, 6]), ([], []), ([8], [8]), ([7, 9], [7, 9]), ([10, 6, 0, 1, 2, 3, 4, 5, 6, 7, 8, 9, 10], [10])])
def spec_CodRowHead.B15 : List Nat := [0, 1, 3, 0, 8, 24, 63, 127, 0, 256, 1023, 2047]
theorem spec_CodRowHead.tab15 : rtab .any (opsOf Tryd.f42 15) = spec_CodRowHead.T15 := by kernel_rfl
theorem spec_CodRowHead.bits15 : waitsOk spec_CodRowHead.T15.2 spec_CodRowHead.B15 = true := by kernel_rfl
set_option maxHeartbeats 8000000 in
set_option maxRecDepth 100000 in
theorem spec_CodRowHead.calls (k : Nat) (a0 : Int) (A1 : Option Addr) (c1 : Nat) (l1 : List Bool) (r : ByteArray) (w : World) (hr1 : Kd.C Kd.bool w A1 l1.length l1) (hc1 : l1.length ≤ c1) (h : spec_CodRowHead.f k a0 l1 = some r) :
    Calls Tryd.prog 42 #[.int .i64 a0, .slice A1 l1.length c1] w fun e w' => e = .returned (.string r) ∧ Below w.heap.size w w' := by
  have HR1 := Aside0.mk hr1
  have HC1 := Aside0.mk hc1
  clear hr1 hc1
  have HB := Aside0.mk (Below.refl w.heap.size w)
  have H : (spec_CodRowHead.l0 k a0 l1 (-1) l1 (l1.length : Int) 0) = some r := h
  clear h
  have H' := Aside0.mk H
  clear H
  go_enter Tryd.func42, Tryd.ntmps42
  go_wp2
  go_loopg [5, 13] k (fun kq v5 v13 w' => ∃ (x5_1 : Int) (x13_1 : Int), v5 = .int .i64 x5_1 ∧ v13 = .int .i64 x13_1 ∧ Aside0 (spec_CodRowHead.l0 kq a0 l1 x5_1 l1 (l1.length : Int) x13_1 = some r) ∧ Aside0 (kq ≤ k) ∧ Aside0 (Below w.heap.size w w'))
  case atStart => exact ⟨((-1)), (0), (by first | rfl | (simp; done) | (simp [*]; done)), (by first | rfl | (simp; done) | (simp [*]; done)), H', ⟨Nat.le_refl _⟩, ⟨by repeat (first | (with_reducible first | exact HB.out | apply below_alloc | apply pw_below_drewN | apply below_drew1) | exact HB.out)⟩⟩
  case round =>
    clear H'
    try clear c1
    try clear p2
    obtain ⟨x5_1, x13_1, rfl, rfl, HA, HK1, HB⟩ := hrel
    cases gk with
    | zero => exact absurd HA.out (by simp [spec_CodRowHead.l0])
    | succ k1 =>
      have H := HA.out
      clear HA
      simp only [spec_CodRowHead.l0] at H
      by_cases c3 : x13_1 < (l1.length : Int)
      · rw [if_pos c3] at H
        have c3b0 : decide (x13_1 < (l1.length : Int)) = true := decide_eq_true c3
        clear c3
        by_cases c4 : 0 ≤ x13_1
        · rw [if_pos c4] at H
          have c4b0 : decide (0 ≤ x13_1) = true := decide_eq_true c4
          clear c4
          by_cases c5 : x13_1 < (l1.length : Int)
          · rw [if_pos c5] at H
            have c5b0 : decide (x13_1 < (l1.length : Int)) = true := decide_eq_true c5
            clear c5
            obtain ⟨bq6, hbq6⟩ : ∃ b_ : Bool, b_ = (rdOf false l1 x13_1) := ⟨_, rfl⟩
            replace H : (if bq6 = true then (spec_CodRowHead.l0 k1 a0 l1 x13_1 l1 (l1.length : Int) (wrap64 (x13_1 + 1))) else (spec_CodRowHead.l0 k1 a0 l1 x5_1 l1 (l1.length : Int) (wrap64 (x13_1 + 1)))) = some r := by rw [← hbq6] at H; exact H
            have Nbq6 := Aside0.mk hbq6
            clear hbq6
            by_cases c7 : bq6 = true
            · subst c7
              have H1 : (spec_CodRowHead.l0 k1 a0 l1 x13_1 l1 (l1.length : Int) (wrap64 (x13_1 + 1))) = some r := by rw [if_pos rfl] at H; exact H
              clear H
              have H := H1
              clear H1
              have H' := Aside0.mk H
              clear H
              have p125 : 0 ≤ (x13_1 : Int) := of_decide_eq_true (by first | (with_reducible assumption) | assumption)
              have q125 : x13_1 < (l1.length : Int) := of_decide_eq_true (by first | (with_reducible assumption) | assumption)
              obtain ⟨ad125, e125, hx125_0⟩ := Kd.at_bool HR1.out x13_1 p125 q125
              (try rw [← Nbq6.out] at hx125_0)
              cases e125
              replace hx125_0 := (HB.out.cell (World.block_lt_of_cell? w _ hx125_0)).trans hx125_0
              replace p125 := eq_true p125
              replace q125 := eq_true q125
              go_wp2
              go_roundg k1
              case measure => have := HK1.out; omega
              case rel => exact ⟨(x13_1), (wrap64 (x13_1 + 1)), (by first | rfl | (simp; done) | (simp [*]; done)), (by first | rfl | (simp; done) | (simp [*]; done)), H', ⟨by have := HK1.out; omega⟩, ⟨by repeat (first | (with_reducible first | exact HB.out | apply below_alloc | apply pw_below_drewN | apply below_drew1) | exact HB.out)⟩⟩
            · replace c7 := Bool.eq_false_iff.mpr c7
              subst c7
              have H1 : (spec_CodRowHead.l0 k1 a0 l1 x5_1 l1 (l1.length : Int) (wrap64 (x13_1 + 1))) = some r := by rw [if_neg (show ¬ (false = true) by decide)] at H; exact H
              clear H
              have H := H1
              clear H1
              have H' := Aside0.mk H
              clear H
              have p125 : 0 ≤ (x13_1 : Int) := of_decide_eq_true (by first | (with_reducible assumption) | assumption)
              have q125 : x13_1 < (l1.length : Int) := of_decide_eq_true (by first | (with_reducible assumption) | assumption)
              obtain ⟨ad125, e125, hx125_0⟩ := Kd.at_bool HR1.out x13_1 p125 q125
              (try rw [← Nbq6.out] at hx125_0)
              cases e125
              replace hx125_0 := (HB.out.cell (World.block_lt_of_cell? w _ hx125_0)).trans hx125_0
              replace p125 := eq_true p125
              replace q125 := eq_true q125
              go_wp2
              go_roundg k1
              case measure => have := HK1.out; omega
              case rel => exact ⟨(x5_1), (wrap64 (x13_1 + 1)), (by first | rfl | (simp; done) | (simp [*]; done)), (by first | rfl | (simp; done) | (simp [*]; done)), H', ⟨by have := HK1.out; omega⟩, ⟨by repeat (first | (with_reducible first | exact HB.out | apply below_alloc | apply pw_below_drewN | apply below_drew1) | exact HB.out)⟩⟩
          · rw [if_neg c5] at H
            exact absurd H (by simp)
        · rw [if_neg c4] at H
          exact absurd H (by simp)
      · rw [if_neg c3] at H
        have c3b0 : decide (x13_1 < (l1.length : Int)) = false := decide_eq_false c3
        clear c3
        obtain ⟨ji8, hji8⟩ : ∃ j_ : Int, (wrap64 (Int.tdiv (wrap64 (x5_1 + 8)) 8)) = j_ := ⟨_, rfl⟩
        replace H : (if 0 ≤ (ji8) then (if (ji8 : Int).toNat ≤ 281474976710656 then (spec_CodRowHead.l1 k1 a0 (List.replicate (ji8 : Int).toNat 0) l1 (l1.length : Int) 0) else (none)) else (none)) = some r := by first | (rw [hji8] at H; exact H) | (simp only [hji8] at H ⊢; exact H)
        have hji8w : (IntKind.i64.wrap (Int.tdiv (wrap64 (x5_1 + 8)) 8)) = ji8 := (i64_w _).trans hji8
        by_cases c9 : 0 ≤ (ji8)
        · rw [if_pos c9] at H
          have c9b0 := eq_true c9
          have c9b1 : decide (0 ≤ (ji8)) = true := decide_eq_true c9
          clear c9
          by_cases c10 : (ji8 : Int).toNat ≤ 281474976710656
          · rw [if_pos c10] at H
            have c10b0 := eq_true c10
            have c10b1 : decide ((ji8 : Int).toNat ≤ 281474976710656) = true := decide_eq_true c10
            clear c10
            obtain ⟨y126, hy126⟩ : ∃ y_ : List Int, y_ = (List.replicate (ji8 : Int).toNat 0) := ⟨_, rfl⟩
            replace H : (spec_CodRowHead.l1 k1 a0 y126 l1 (l1.length : Int) 0) = some r := by first | (rw [hy126]; with_reducible exact H) | (have H2_ := (Option.bind_some _ _).symm.trans H; rw [hy126]; with_reducible exact H2_) | (have H2_ := (Option.bind_some _ _).symm.trans H; with_reducible exact H2_) | with_reducible exact H | (rw [hy126]; exact H) | exact H
            have Ny126 := Aside0.mk hy126
            clear hy126
            have H' := Aside0.mk H
            clear H
            go_wp2_with (first | ((with_reducible refine gate_dst (N := 24) rfl ?_); refine Kd.R_make (Kd.int .u8) _ 5 rfl (N := 24) rfl 29 _ _ rfl ji8 rfl rfl Tryd.underlying29 (.int .u8 0) 1 info5 rfl (by decide) (by omega) 0 (ok := fun _ => True) (okp := fun _ => True) rfl (fun _ hk => hk) trivial (of_decide_eq_true (by first | (with_reducible assumption) | assumption)) (Nat.le_trans (Nat.mul_le_mul_right _ (of_decide_eq_true (by first | (with_reducible assumption) | assumption) : ji8.toNat ≤ 281474976710656)) (by omega)) (Below.refl _ _) (Nat.le_refl _) ?_; intro v127 w11 ho12 hb hg_ hnew_; clear hg_ hnew_; (first | rw [← Ny126.out] at ho12 | (simp only [Int.reduceToNat] at ho12; rw [← Ny126.out] at ho12)); have n0_ := Aside0.mk (Kd.R_lower ho12 (below_size (by repeat (first | (with_reducible first | exact HB.out | apply below_alloc | apply pw_below_drewN | apply below_drew1) | exact HB.out)))); have n1_ := Aside0.mk (below_step (by repeat (first | (with_reducible first | exact HB.out | apply below_alloc | apply pw_below_drewN | apply below_drew1) | exact HB.out)) hb); clear HB; have HO128 := n0_; have HB := n1_; clear n0_ n1_; clear hb ho12))
            go_loopg [27] k1 (fun kq v27 w' => ∃ (x8_2 : List Int) (x27_2 : Int), v27 = .int .i64 x27_2 ∧ Aside0 (spec_CodRowHead.l1 kq a0 x8_2 l1 (l1.length : Int) x27_2 = some r) ∧ Aside0 (kq ≤ k1) ∧ Aside0 (Kd.R (Kd.int .u8) 5 w' w.heap.size (fun _ => True) v127 x8_2) ∧ Aside0 (Below w.heap.size w w'))
            case atStart => exact ⟨(y126), (0), (by first | rfl | (simp; done) | (simp [*]; done)), H', ⟨Nat.le_refl _⟩, ⟨by (with_reducible repeat (first | apply Kd.R_alloc | apply Kd.R_drewN | apply Kd.R_drew)); exact HO128.out⟩, ⟨by repeat (first | (with_reducible first | exact HB.out | apply below_alloc | apply pw_below_drewN | apply below_drew1) | exact HB.out)⟩⟩
            case round =>
              clear H'
              try clear c1
              try clear p1
              try clear q1
              try clear hx1
              try clear p2
              try clear c3
              try clear c3b0
              try clear c4
              try clear c4b0
              try clear c5
              try clear c5b0
              try clear p6
              try clear q6
              try clear c7
              try clear c9
              try clear c9b0
              try clear c9b1
              try clear c10
              try clear c10b0
              try clear c10b1
              try clear p12
              try clear q12
              try clear hx12
              try clear hx125_0
              try clear p125
              try clear p2
              try clear q125
              obtain ⟨x8_2, x27_2, rfl, HA, HK2, HO_8, HB⟩ := hrel
              cases gk with
              | zero => exact absurd HA.out (by simp [spec_CodRowHead.l1])
              | succ k2 =>
                have H := HA.out
                clear HA
                simp only [spec_CodRowHead.l1] at H
                by_cases c13 : x27_2 < (l1.length : Int)
                · rw [if_pos c13] at H
                  have c13b0 : decide (x27_2 < (l1.length : Int)) = true := decide_eq_true c13
                  clear c13
                  by_cases c14 : 0 ≤ x27_2
                  · rw [if_pos c14] at H
                    have c14b0 : decide (0 ≤ x27_2) = true := decide_eq_true c14
                    clear c14
                    by_cases c15 : x27_2 < (l1.length : Int)
                    · rw [if_pos c15] at H
                      have c15b0 : decide (x27_2 < (l1.length : Int)) = true := decide_eq_true c15
                      clear c15
                      obtain ⟨bq16, hbq16⟩ : ∃ b_ : Bool, b_ = (rdOf false l1 x27_2) := ⟨_, rfl⟩
                      replace H : (if bq16 = true then (if 0 ≤ (wrap64 (Int.tdiv x27_2 8)) then (if (wrap64 (Int.tdiv x27_2 8)) < (x8_2.length : Int) then (if 0 ≤ (Int.tmod x27_2 8) then (spec_CodRowHead.l1 k2 a0 (x8_2.set ((wrap64 (Int.tdiv x27_2 8)) : Int).toNat (Go.bits .or .u8 (rd x8_2 (wrap64 (Int.tdiv x27_2 8))) (shl .u8 1 (Int.tmod x27_2 8)))) l1 (l1.length : Int) (wrap64 (x27_2 + 1))) else (none)) else (none)) else (none)) else (spec_CodRowHead.l1 k2 a0 x8_2 l1 (l1.length : Int) (wrap64 (x27_2 + 1)))) = some r := by rw [← hbq16] at H; exact H
                      have Nbq16 := Aside0.mk hbq16
                      clear hbq16
                      by_cases c17 : bq16 = true
                      · subst c17
                        have H1 : (if 0 ≤ (wrap64 (Int.tdiv x27_2 8)) then (if (wrap64 (Int.tdiv x27_2 8)) < (x8_2.length : Int) then (if 0 ≤ (Int.tmod x27_2 8) then (spec_CodRowHead.l1 k2 a0 (x8_2.set ((wrap64 (Int.tdiv x27_2 8)) : Int).toNat (Go.bits .or .u8 (rd x8_2 (wrap64 (Int.tdiv x27_2 8))) (shl .u8 1 (Int.tmod x27_2 8)))) l1 (l1.length : Int) (wrap64 (x27_2 + 1))) else (none)) else (none)) else (none)) = some r := by rw [if_pos rfl] at H; exact H
                        clear H
                        have H := H1
                        clear H1
                        obtain ⟨ji18, hji18⟩ : ∃ j_ : Int, (wrap64 (Int.tdiv x27_2 8)) = j_ := ⟨_, rfl⟩
                        replace H : (if 0 ≤ (ji18) then (if (ji18) < (x8_2.length : Int) then (if 0 ≤ (Int.tmod x27_2 8) then (spec_CodRowHead.l1 k2 a0 (x8_2.set ((ji18) : Int).toNat (Go.bits .or .u8 (rd x8_2 (ji18)) (shl .u8 1 (Int.tmod x27_2 8)))) l1 (l1.length : Int) (wrap64 (x27_2 + 1))) else (none)) else (none)) else (none)) = some r := by first | (rw [hji18] at H; exact H) | (simp only [hji18] at H ⊢; exact H)
                        have hji18w : (IntKind.i64.wrap (Int.tdiv x27_2 8)) = ji18 := (i64_w _).trans hji18
                        by_cases c19 : 0 ≤ (ji18)
                        · rw [if_pos c19] at H
                          have c19b0 : decide (0 ≤ (ji18)) = true := decide_eq_true c19
                          clear c19
                          by_cases c20 : (ji18) < (x8_2.length : Int)
                          · rw [if_pos c20] at H
                            have c20b0 : decide ((ji18) < (x8_2.length : Int)) = true := decide_eq_true c20
                            clear c20
                            obtain ⟨ji21, hji21⟩ : ∃ j_ : Int, (Int.tmod x27_2 8) = j_ := ⟨_, rfl⟩
                            replace H : (if 0 ≤ (ji21) then (spec_CodRowHead.l1 k2 a0 (x8_2.set ((ji18) : Int).toNat (Go.bits .or .u8 (rd x8_2 (ji18)) (shl .u8 1 (ji21)))) l1 (l1.length : Int) (wrap64 (x27_2 + 1))) else (none)) = some r := by first | (rw [hji21] at H; exact H) | (simp only [hji21] at H ⊢; exact H)
                            by_cases c22 : 0 ≤ (ji21)
                            · rw [if_pos c22] at H
                              have c22b0 := eq_true c22
                              have c22b1 : decide (0 ≤ (ji21)) = true := decide_eq_true c22
                              clear c22
                              obtain ⟨ji23, hji23⟩ : ∃ j_ : Int, (shl .u8 1 (ji21)) = j_ := ⟨_, rfl⟩
                              replace H : (spec_CodRowHead.l1 k2 a0 (x8_2.set ((ji18) : Int).toNat (Go.bits .or .u8 (rd x8_2 (ji18)) (ji23))) l1 (l1.length : Int) (wrap64 (x27_2 + 1))) = some r := by first | (rw [hji23] at H; exact H) | (simp only [hji23] at H ⊢; exact H)
                              have hji23_ : (IntKind.u8.wrap (1 * 2 ^ min (ji21).toNat 8)) = ji23 := hji23
                              have hji23z : (ji21) ≤ 8 → (IntKind.u8.wrap (1 * 2 ^ (ji21).toNat)) = ji23 := shl_small hji23
                              have hji23u : (IntKind.u8.wrap (2 ^ min (ji21).toNat 8)) = ji23 := by have h_ := hji23_; rw [Int.one_mul] at h_; exact h_
                              have hji23v : (ji21) ≤ 8 → (IntKind.u8.wrap (2 ^ (ji21).toNat)) = ji23 := fun hle_ => by have h_ := hji23z hle_; rw [Int.one_mul] at h_; exact h_
                              obtain ⟨y131, hy131⟩ : ∃ y_ : List Int, y_ = (x8_2.set ((ji18) : Int).toNat (Go.bits .or .u8 (rd x8_2 (ji18)) (ji23))) := ⟨_, rfl⟩
                              replace H : (spec_CodRowHead.l1 k2 a0 y131 l1 (l1.length : Int) (wrap64 (x27_2 + 1))) = some r := by first | (rw [hy131]; with_reducible exact H) | (have H2_ := (Option.bind_some _ _).symm.trans H; rw [hy131]; with_reducible exact H2_) | (have H2_ := (Option.bind_some _ _).symm.trans H; with_reducible exact H2_) | with_reducible exact H | (rw [hy131]; exact H) | exact H
                              have Ny131 := Aside0.mk hy131
                              clear hy131
                              have H' := Aside0.mk H
                              clear H
                              have p129 : 0 ≤ (x27_2 : Int) := of_decide_eq_true (by first | (with_reducible assumption) | assumption)
                              have q129 : x27_2 < (l1.length : Int) := of_decide_eq_true (by first | (with_reducible assumption) | assumption)
                              obtain ⟨ad129, e129, hx129_0⟩ := Kd.at_bool HR1.out x27_2 p129 q129
                              (try rw [← Nbq16.out] at hx129_0)
                              cases e129
                              replace hx129_0 := (HB.out.cell (World.block_lt_of_cell? w _ hx129_0)).trans hx129_0
                              replace p129 := eq_true p129
                              replace q129 := eq_true q129
                              try go_wp2
                              have n0_ := Aside0.mk (Kd.R_drew HO_8.out)
                              have n1_ := Aside0.mk (below_drew1 HB.out)
                              clear HO_8
                              clear HB
                              have HO_8 := n0_
                              have HB := n1_
                              clear n0_ n1_
                              obtain ⟨Ao26, co26, eo26⟩ := Kd.R_slice HO_8.out
                              (first | subst eo26 | (injection eo26 with f1_ f2_ f3_; have f4_ := f1_.symm; have f5_ := f3_.symm; clear f1_ f2_ f3_; subst f4_; subst f5_))
                              have p130 : 0 ≤ ((ji18) : Int) := of_decide_eq_true (by first | (with_reducible assumption) | assumption)
                              have q130 : (ji18) < (x8_2.length : Int) := of_decide_eq_true (by first | (with_reducible assumption) | assumption)
                              obtain ⟨ad130, e130, hx130_0⟩ := Kd.at_int (Kd.R_reads' HO_8.out).2.2 (ji18) p130 q130
                              cases e130
                              replace p130 := eq_true p130
                              replace q130 := eq_true q130
                              have p24 : 0 ≤ ((ji18) : Int) := of_decide_eq_true (by first | (with_reducible assumption) | assumption)
                              have q24 : ((ji18) : Int) < ((x8_2.length : Int) : Int) := of_decide_eq_true (by first | (with_reducible assumption) | assumption)
                              obtain ⟨go24, co24, eo24, gb24, gl24, cl24, HG24⟩ := Kd.R_form HO_8.out (by omega)
                              (first | cases eo24 | (injection eo24 with ea_ en_ ec_; (first | subst ea_ | (injection ea_ with ea_; subst ea_)); subst ec_; clear en_))
                              have GB24 := Aside0.mk gb24
                              have GG24 := Aside0.mk HG24
                              clear gb24 gl24 HG24
                              (first | simp only [add_plain] at hx130_0 | skip)
                              obtain ⟨hx24_0, hf24_0⟩ := Kd.R_celln 0 HO_8.out ((ji18) : Int) p24 q24
                              replace p24 := eq_true p24
                              replace q24 := eq_true q24
                              have HP27 := Kd.R_putn HO_8.out ((ji18) : Int) (Go.bits .or .u8 (rd x8_2 (ji18)) (ji23))
                              rw [← Ny131.out] at HP27
                              have HQ27 := Aside0.mk HP27
                              clear HP27
                              refine start_ (n := 11) (S := fun w' => w'.cell? ⟨go24, ((ji18)).toNat, none⟩ = some (.int .u8 (rd x8_2 (ji18)))) (ds := [10]) #[false, false, false, false, false, false, false, false, false, false, false] (by kernel_rfl) rfl rfl (hx130_0) (fun hHeld => ?_); refine with_tabW spec_CodRowHead.tab13 spec_CodRowHead.bits13 (fun HT_ HW_ => ?_)
                              generalize wr.drew = w25 at HO_8 HB GG24 HQ27 hf24_0 hx130_0 hx24_0 hHeld ⊢
                              refine pure_ (i := 0) (N := some 33) (v := ?_) (a' := ?_) #[true, false, false, false, false, false, false, false, false, false, false] rfl rfl (any_of HT_.out (by kernel_rfl)) (fun _ _ _ h => h) (Or.inl ⟨by rfl, ?_⟩) ?_ ?_
                              rotate_left
                              · intro w'
                                go_simp
                                with_reducible rfl
                              rotate_left
                              · simp only [Act.put, List.setIfInBounds_toArray, List.set_cons_zero, List.set_cons_succ, i64_w, i32_w]
                                rfl
                              refine pure_ (i := 1) (N := some 34) (v := ?_) (a' := ?_) #[true, true, false, false, false, false, false, false, false, false, false] rfl rfl (any_of HT_.out (by kernel_rfl)) (fun _ _ _ h => h) (Or.inl ⟨by rfl, ?_⟩) ?_ ?_
                              rotate_left
                              · intro w'
                                go_simp
                                with_reducible rfl
                              rotate_left
                              · simp only [Act.put, List.setIfInBounds_toArray, List.set_cons_zero, List.set_cons_succ, i64_w, i32_w]
                                rfl
                              refine pure_ (i := 2) (N := some 35) (v := ?_) (a' := ?_) #[true, true, true, false, false, false, false, false, false, false, false] rfl rfl (any_of HT_.out (by kernel_rfl)) (fun _ _ _ h => h) (Or.inl ⟨by rfl, ?_⟩) ?_ ?_
                              rotate_left
                              · intro w'
                                go_simp
                                with_reducible rfl
                              rotate_left
                              · simp only [Act.put, List.setIfInBounds_toArray, List.set_cons_zero, List.set_cons_succ, i64_w, i32_w]
                                rfl
                              refine pure_ (i := 3) (N := some 36) (v := ?_) (a' := ?_) #[true, true, true, true, false, false, false, false, false, false, false] rfl rfl (any_of HT_.out (by kernel_rfl)) (fun _ _ _ h => h) (Or.inl ⟨by rfl, ?_⟩) ?_ ?_
                              rotate_left
                              · intro w'
                                go_simp
                                with_reducible rfl
                              rotate_left
                              · simp only [Act.put, List.setIfInBounds_toArray, List.set_cons_zero, List.set_cons_succ, i64_w, i32_w]
                                rfl
                              refine pure_ (i := 5) (N := some 38) (v := ?_) (a' := ?_) #[true, true, true, true, false, true, false, false, false, false, false] rfl rfl (any_of HT_.out (by kernel_rfl)) (fun _ _ _ h => h) (Or.inl ⟨by rfl, ?_⟩) ?_ ?_
                              rotate_left
                              · intro w'
                                go_simp
                                with_reducible rfl
                              rotate_left
                              · simp only [Act.put, List.setIfInBounds_toArray, List.set_cons_zero, List.set_cons_succ, i64_w, i32_w]
                                rfl
                              refine pure_ (i := 6) (N := some 39) (v := ?_) (a' := ?_) #[true, true, true, true, false, true, true, false, false, false, false] rfl rfl (any_of HT_.out (by kernel_rfl)) (fun _ _ _ h => h) (Or.inl ⟨by rfl, ?_⟩) ?_ ?_
                              rotate_left
                              · intro w'
                                go_simp
                                with_reducible rfl
                              rotate_left
                              · simp only [Act.put, List.setIfInBounds_toArray, List.set_cons_zero, List.set_cons_succ, i64_w, i32_w]
                                rfl
                              refine pure_ (i := 7) (N := some 40) (v := ?_) (a' := ?_) #[true, true, true, true, false, true, true, true, false, false, false] rfl rfl (any_of HT_.out (by kernel_rfl)) (fun _ _ _ h => h) (Or.inl ⟨by rfl, ?_⟩) ?_ ?_
                              rotate_left
                              · intro w'
                                go_simp
                                with_reducible rfl
                              rotate_left
                              · simp only [Act.put, List.setIfInBounds_toArray, List.set_cons_zero, List.set_cons_succ, i64_w, i32_w]
                                rfl
                              refine take_ (i := 4) (N := some 37) (v := ?_) (a' := ?_) #[true, true, true, true, true, true, true, true, false, false, false] rfl rfl (take_ofW HT_.out HW_.out (by kernel_rfl)) (fun _ _ _ h => h) (Or.inl ⟨by rfl, ?_⟩) hHeld ?_ ?_
                              rotate_left
                              · intro w' s0
                                go_simp
                                with_reducible rfl
                              rotate_left
                              · simp only [Act.put, List.setIfInBounds_toArray, List.set_cons_zero, List.set_cons_succ, i64_w, i32_w]
                                rfl
                              refine pure_ (i := 8) (N := some 41) (v := ?_) (a' := ?_) #[true, true, true, true, true, true, true, true, true, false, false] rfl rfl (any_of HT_.out (by kernel_rfl)) (fun _ _ _ h => h) (Or.inl ⟨by rfl, ?_⟩) ?_ ?_
                              rotate_left
                              · intro w'
                                go_simp
                                with_reducible rfl
                              rotate_left
                              · simp only [Act.put, List.setIfInBounds_toArray, List.set_cons_zero, List.set_cons_succ, i64_w, i32_w]
                                rfl
                              refine pure_ (i := 9) (N := some 42) (v := ?_) (a' := ?_) #[true, true, true, true, true, true, true, true, true, true, false] rfl rfl (any_of HT_.out (by kernel_rfl)) (fun _ _ _ h => h) (Or.inl ⟨by rfl, ?_⟩) ?_ ?_
                              rotate_left
                              · intro w'
                                go_simp
                                with_reducible rfl
                              rotate_left
                              · simp only [Act.put, List.setIfInBounds_toArray, List.set_cons_zero, List.set_cons_succ, i64_w, i32_w]
                                rfl
                              refine last_ (i := 10) (N := none) #[true, true, true, true, true, true, true, true, true, true, true] rfl rfl (one_of HT_.out (by kernel_rfl)) (by decide) (fun K hK => ?_)
                              refine skip_ (w1 := ?_) (by rfl) rfl ?_ ?_
                              rotate_left
                              · go_simp
                                rfl
                              refine hK.out _ _ ?_
                              clear hK K
                              refine done_ (done_of HT_.out (by kernel_rfl)) ?_
                              try go_wp2
                              go_roundg k2
                              case measure => have := HK1.out; have := HK2.out; omega
                              case rel => exact ⟨(y131), (wrap64 (x27_2 + 1)), (by first | rfl | (simp; done) | (simp [*]; done)), H', ⟨by have := HK1.out; have := HK2.out; omega⟩, ⟨by (with_reducible repeat (first | apply Kd.R_alloc | apply Kd.R_drewN | apply Kd.R_drew)); exact HQ27.out⟩, ⟨by repeat (first | (with_reducible first | exact HB.out | apply below_alloc | apply pw_below_drewN | apply below_drew1 | refine below_set ?_ GB24.out) | exact HB.out)⟩⟩
                            · rw [if_neg c22] at H
                              exact absurd H (by simp)
                          · rw [if_neg c20] at H
                            exact absurd H (by simp)
                        · rw [if_neg c19] at H
                          exact absurd H (by simp)
                      · replace c17 := Bool.eq_false_iff.mpr c17
                        subst c17
                        have H1 : (spec_CodRowHead.l1 k2 a0 x8_2 l1 (l1.length : Int) (wrap64 (x27_2 + 1))) = some r := by rw [if_neg (show ¬ (false = true) by decide)] at H; exact H
                        clear H
                        have H := H1
                        clear H1
                        have H' := Aside0.mk H
                        clear H
                        have p129 : 0 ≤ (x27_2 : Int) := of_decide_eq_true (by first | (with_reducible assumption) | assumption)
                        have q129 : x27_2 < (l1.length : Int) := of_decide_eq_true (by first | (with_reducible assumption) | assumption)
                        obtain ⟨ad129, e129, hx129_0⟩ := Kd.at_bool HR1.out x27_2 p129 q129
                        (try rw [← Nbq16.out] at hx129_0)
                        cases e129
                        replace hx129_0 := (HB.out.cell (World.block_lt_of_cell? w _ hx129_0)).trans hx129_0
                        replace p129 := eq_true p129
                        replace q129 := eq_true q129
                        go_wp2
                        go_roundg k2
                        case measure => have := HK1.out; have := HK2.out; omega
                        case rel => exact ⟨(x8_2), (wrap64 (x27_2 + 1)), (by first | rfl | (simp; done) | (simp [*]; done)), H', ⟨by have := HK1.out; have := HK2.out; omega⟩, ⟨by (with_reducible repeat (first | apply Kd.R_alloc | apply Kd.R_drewN | apply Kd.R_drew)); exact HO_8.out⟩, ⟨by repeat (first | (with_reducible first | exact HB.out | apply below_alloc | apply pw_below_drewN | apply below_drew1) | exact HB.out)⟩⟩
                    · rw [if_neg c15] at H
                      exact absurd H (by simp)
                  · rw [if_neg c14] at H
                    exact absurd H (by simp)
                · rw [if_neg c13] at H
                  have c13b0 : decide (x27_2 < (l1.length : Int)) = false := decide_eq_false c13
                  clear c13
                  replace H := Option.bind_eq_some_iff.mp H
                  obtain ⟨t132, A280, H⟩ := H
                  replace H : ((spec_CodVarint.f k2 (IntKind.u64.wrap ((x8_2.length : Int)))).bind fun t133 => (if t132.size + t133.size ≤ 9223372036854775807 then (if (t132 ++ t133).size + (strOfNums x8_2).size ≤ 9223372036854775807 then (some ((t132 ++ t133) ++ (strOfNums x8_2))) else (none)) else (none))) = some r := H
                  have A28 := Aside0.mk A280
                  clear A280
                  replace H := Option.bind_eq_some_iff.mp H
                  obtain ⟨t133, A290, H⟩ := H
                  replace H : (if t132.size + t133.size ≤ 9223372036854775807 then (if (t132 ++ t133).size + (strOfNums x8_2).size ≤ 9223372036854775807 then (some ((t132 ++ t133) ++ (strOfNums x8_2))) else (none)) else (none)) = some r := H
                  have A29 := Aside0.mk A290
                  clear A290
                  by_cases c30 : t132.size + t133.size ≤ 9223372036854775807
                  · rw [if_pos c30] at H
                    have c30b0 := eq_true c30
                    have c30b1 : decide (t132.size + t133.size ≤ 9223372036854775807) = true := decide_eq_true c30
                    try have c30b2 : (9223372036854775807 < t132.size + t133.size) = False := eq_false (Nat.not_lt.2 c30)
                    try (have c30b3 := c30b2; simp only [ByteArray.size_append] at c30b3)
                    by_cases c31 : (t132 ++ t133).size + (strOfNums x8_2).size ≤ 9223372036854775807
                    · rw [if_pos c31] at H
                      have c31b0 := eq_true c31
                      have c31b1 : decide ((t132 ++ t133).size + (strOfNums x8_2).size ≤ 9223372036854775807) = true := decide_eq_true c31
                      try have c31b2 : (9223372036854775807 < (t132 ++ t133).size + (strOfNums x8_2).size) = False := eq_false (Nat.not_lt.2 c31)
                      try (have c31b3 := c31b2; simp only [ByteArray.size_append] at c31b3)
                      obtain rfl := Option.some.inj H
                      try go_wp2
                      have n0_ := Aside0.mk (Kd.R_drew HO_8.out)
                      have n1_ := Aside0.mk (below_drew1 HB.out)
                      clear HO_8
                      clear HB
                      have HO_8 := n0_
                      have HB := n1_
                      clear n0_ n1_
                      obtain ⟨Ao33, co33, eo33⟩ := Kd.R_slice HO_8.out
                      (first | subst eo33 | (injection eo33 with f1_ f2_ f3_; have f4_ := f1_.symm; have f5_ := f3_.symm; clear f1_ f2_ f3_; subst f4_; subst f5_))
                      refine start_ (n := 12) (S := fun w' => (convert 29 9 (.slice Ao33 x8_2.length co33)).run Tryd.prog w' = .ok (.string (strOfNums x8_2)) w') (ds := []) #[false, false, false, false, false, false, false, false, false, false, false, false] (by kernel_rfl) rfl rfl (own_string (P := Tryd.prog) Tryd.underlying29 Tryd.underlying5 Tryd.underlying9 (Kd.own_of_R HO_8.out)) (fun hHeld => ?_); refine with_tabW spec_CodRowHead.tab15 spec_CodRowHead.bits15 (fun HT_ HW_ => ?_)
                      generalize wr.drew = w32 at HO_8 HB hHeld ⊢
                      refine pure_ (i := 0) (N := some 44) (v := ?_) (a' := ?_) #[true, false, false, false, false, false, false, false, false, false, false, false] rfl rfl (any_of HT_.out (by kernel_rfl)) (fun _ _ _ h => h) (Or.inl ⟨by rfl, ?_⟩) ?_ ?_
                      rotate_left
                      · intro w'
                        go_simp
                        with_reducible rfl
                      rotate_left
                      · simp only [Act.put, List.setIfInBounds_toArray, List.set_cons_zero, List.set_cons_succ, i64_w, i32_w]
                        rfl
                      refine pure_ (i := 1) (N := some 45) (v := ?_) (a' := ?_) #[true, true, false, false, false, false, false, false, false, false, false, false] rfl rfl (any_of HT_.out (by kernel_rfl)) (fun _ _ _ h => h) (Or.inl ⟨by rfl, ?_⟩) ?_ ?_
                      rotate_left
                      · intro w'
                        go_simp
                        with_reducible rfl
                      rotate_left
                      · simp only [Act.put, List.setIfInBounds_toArray, List.set_cons_zero, List.set_cons_succ, i64_w, i32_w]
                        rfl
                      refine pure_ (i := 3) (N := some 47) (v := ?_) (a' := ?_) #[true, true, false, true, false, false, false, false, false, false, false, false] rfl rfl (any_of HT_.out (by kernel_rfl)) (fun _ _ _ h => h) (Or.inl ⟨by rfl, ?_⟩) ?_ ?_
                      rotate_left
                      · intro w'
                        go_simp
                        with_reducible rfl
                      rotate_left
                      · simp only [Act.put, List.setIfInBounds_toArray, List.set_cons_zero, List.set_cons_succ, i64_w, i32_w]
                        rfl
                      refine pure_ (i := 4) (N := some 48) (v := ?_) (a' := ?_) #[true, true, false, true, true, false, false, false, false, false, false, false] rfl rfl (any_of HT_.out (by kernel_rfl)) (fun _ _ _ h => h) (Or.inl ⟨by rfl, ?_⟩) ?_ ?_
                      rotate_left
                      · intro w'
                        go_simp
                        with_reducible rfl
                      rotate_left
                      · simp only [Act.put, List.setIfInBounds_toArray, List.set_cons_zero, List.set_cons_succ, i64_w, i32_w]
                        rfl
                      refine pure_ (i := 5) (N := some 49) (v := ?_) (a' := ?_) #[true, true, false, true, true, true, false, false, false, false, false, false] rfl rfl (any_of HT_.out (by kernel_rfl)) (fun _ _ _ h => h) (Or.inl ⟨by rfl, ?_⟩) ?_ ?_
                      rotate_left
                      · intro w'
                        go_simp
                        with_reducible rfl
                      rotate_left
                      · simp only [Act.put, List.setIfInBounds_toArray, List.set_cons_zero, List.set_cons_succ, i64_w, i32_w]
                        rfl
                      refine pure_ (i := 8) (N := some 52) (v := ?_) (a' := ?_) #[true, true, false, true, true, true, false, false, true, false, false, false] rfl rfl (any_of HT_.out (by kernel_rfl)) (fun _ _ _ h => h) (Or.inl ⟨by rfl, ?_⟩) ?_ ?_
                      rotate_left
                      · intro w'
                        go_simp
                        with_reducible rfl
                      rotate_left
                      · simp only [Act.put, List.setIfInBounds_toArray, List.set_cons_zero, List.set_cons_succ, i64_w, i32_w]
                        rfl
                      refine take_ (i := 9) (N := some 53) (v := ?_) (a' := ?_) #[true, true, false, true, true, true, false, false, true, true, false, false] rfl rfl (take_ofW HT_.out HW_.out (by kernel_rfl)) (fun _ _ _ h => h) (Or.inl ⟨by rfl, ?_⟩) hHeld ?_ ?_
                      rotate_left
                      · rintro w' s0
                        go_simp
                        with_reducible rfl
                      rotate_left
                      · simp only [Act.put, List.setIfInBounds_toArray, List.set_cons_zero, List.set_cons_succ, i64_w, i32_w]
                        rfl
                      refine one_ (i := 2) (N := some 46) #[true, true, true, true, true, true, false, false, true, true, false, false] rfl rfl (one_of HT_.out (by kernel_rfl)) (by decide) (fun K hK => ?_)
                      refine goes_ Tryd.func32 (by kernel_rfl) rfl #[.int .u64 (IntKind.u64.wrap (a0))] (by rfl) rfl rfl (by (try simp only [List.map_toArray, List.map_cons, List.map_nil]); first | done | rfl | (simp only [List.length_drop, List.length_take]; rfl)) ?_
                      with_reducible refine (spec_CodVarint.calls k2 (IntKind.u64.wrap (a0)) t132 _ A28.out).mono ?_
                      rintro e w34 ⟨rfl, hb⟩
                      refine ⟨_, rfl, ?_⟩
                      have n0_ := Aside0.mk (Kd.R_below (by (with_reducible repeat (first | apply Kd.R_alloc | apply Kd.R_drewN | apply Kd.R_drew)); exact HO_8.out) hb)
                      have n1_ := Aside0.mk (below_step (by repeat (first | (with_reducible first | exact HB.out | apply below_alloc | apply pw_below_drewN | apply below_drew1) | exact HB.out)) hb)
                      clear HO_8
                      clear HB
                      have HO_8 := n0_
                      have HB := n1_
                      clear n0_ n1_
                      (try clear hb)
                      (try clear hb2)
                      (try clear hk)
                      (try clear hi)
                      refine hK.out _ _ (own_string (P := Tryd.prog) Tryd.underlying29 Tryd.underlying5 Tryd.underlying9 (Kd.own_of_R HO_8.out)) (fun hHeld => ?_)
                      clear hK K
                      refine norm_ (a' := ?_) ?_ ?_
                      rotate_left
                      · show Act.put _ (some 46) _ = _
                        simp only [Act.put, List.setIfInBounds_toArray, List.set_cons_zero, List.set_cons_succ, i64_w, i32_w]
                        rfl
                      refine one_ (i := 6) (N := some 50) #[true, true, true, true, true, true, true, false, true, true, false, false] rfl rfl (one_of HT_.out (by kernel_rfl)) (by decide) (fun K hK => ?_)
                      refine goes_ Tryd.func32 (by kernel_rfl) rfl #[.int .u64 (IntKind.u64.wrap ((x8_2.length : Int)))] (by rfl) rfl rfl (by (try simp only [List.map_toArray, List.map_cons, List.map_nil]); first | done | rfl | (simp only [List.length_drop, List.length_take]; rfl)) ?_
                      with_reducible refine (spec_CodVarint.calls k2 (IntKind.u64.wrap ((x8_2.length : Int))) t133 _ A29.out).mono ?_
                      rintro e w35 ⟨rfl, hb⟩
                      refine ⟨_, rfl, ?_⟩
                      have n0_ := Aside0.mk (Kd.R_below (by (with_reducible repeat (first | apply Kd.R_alloc | apply Kd.R_drewN | apply Kd.R_drew)); exact HO_8.out) hb)
                      have n1_ := Aside0.mk (below_step (by repeat (first | (with_reducible first | exact HB.out | apply below_alloc | apply pw_below_drewN | apply below_drew1) | exact HB.out)) hb)
                      clear HO_8
                      clear HB
                      have HO_8 := n0_
                      have HB := n1_
                      clear n0_ n1_
                      (try clear hb)
                      (try clear hb2)
                      (try clear hk)
                      (try clear hi)
                      have hcv36 := own_string (P := Tryd.prog) Tryd.underlying29 Tryd.underlying5 Tryd.underlying9 (Kd.own_of_R HO_8.out)
                      refine hK.out _ _ (own_string (P := Tryd.prog) Tryd.underlying29 Tryd.underlying5 Tryd.underlying9 (Kd.own_of_R HO_8.out)) (fun hHeld => ?_)
                      clear hK K
                      refine norm_ (a' := ?_) ?_ ?_
                      rotate_left
                      · show Act.put _ (some 50) _ = _
                        simp only [Act.put, List.setIfInBounds_toArray, List.set_cons_zero, List.set_cons_succ, i64_w, i32_w]
                        rfl
                      refine pure_ (i := 7) (N := some 51) (v := ?_) (a' := ?_) #[true, true, true, true, true, true, true, true, true, true, false, false] rfl rfl (any_of HT_.out (by kernel_rfl)) (fun _ _ _ h => h) (Or.inl ⟨by rfl, ?_⟩) ?_ ?_
                      rotate_left
                      · intro w'
                        go_simp
                        with_reducible rfl
                      rotate_left
                      · simp only [Act.put, List.setIfInBounds_toArray, List.set_cons_zero, List.set_cons_succ, i64_w, i32_w]
                        rfl
                      refine pure_ (i := 10) (N := some 54) (v := ?_) (a' := ?_) #[true, true, true, true, true, true, true, true, true, true, true, false] rfl rfl (any_of HT_.out (by kernel_rfl)) (fun _ _ _ h => h) (Or.inl ⟨by rfl, ?_⟩) ?_ ?_
                      rotate_left
                      · intro w'
                        go_simp
                        with_reducible rfl
                      rotate_left
                      · simp only [Act.put, List.setIfInBounds_toArray, List.set_cons_zero, List.set_cons_succ, i64_w, i32_w]
                        rfl
                      refine pure_ (i := 11) (N := some 4) (v := ?_) (a' := ?_) #[true, true, true, true, true, true, true, true, true, true, true, true] rfl rfl (any_of HT_.out (by kernel_rfl)) (fun _ _ _ h => h) (Or.inl ⟨by rfl, ?_⟩) ?_ ?_
                      rotate_left
                      · intro w'
                        go_simp
                        with_reducible rfl
                      rotate_left
                      · simp only [Act.put, List.setIfInBounds_toArray, List.set_cons_zero, List.set_cons_succ, i64_w, i32_w]
                        rfl
                      refine done_ (done_of HT_.out (by kernel_rfl)) ?_
                      try go_wp2
                      go_ret
                      exact ⟨by first | rfl | (simp [errW_none, errW_some] <;> rfl) | (simp only [← hji8]; first | rfl | (simp [errW_none, errW_some] <;> rfl)) | (simp [*, errW_none, errW_some] <;> rfl), by repeat (first | (with_reducible first | exact HB.out | apply below_alloc | apply pw_below_drewN | apply below_drew1) | exact HB.out)⟩
                    · rw [if_neg c31] at H
                      exact absurd H (by simp)
                  · rw [if_neg c30] at H
                    exact absurd H (by simp)
          · rw [if_neg c10] at H
            exact absurd H (by simp)
        · rw [if_neg c9] at H
          exact absurd H (by simp)

/-! ### laws_codRowFew: function 43 -/
def laws_codRowFew.f (a0 : Int) (l1 : List Bool) : Option (Bool) := if a0 ≥ 0 then (if a0 ≤ 10000 then (if (l1.length : Int) ≤ 200 then (some (decide ((l1.length : Int) ≤ a0))) else (some false)) else (some false)) else (some false)
set_option maxHeartbeats 8000000 in
set_option maxRecDepth 100000 in
theorem laws_codRowFew.calls (a0 : Int) (A1 : Option Addr) (c1 : Nat) (l1 : List Bool) (r : Bool) (w : World) (hr1 : Kd.C Kd.bool w A1 l1.length l1) (hc1 : l1.length ≤ c1) (h : laws_codRowFew.f a0 l1 = some r) :
    Calls Tryd.prog 43 #[.int .i64 a0, .slice A1 l1.length c1] w fun e w' => e = .returned (.bool r) ∧ Drawn0 w w' := by
  have HR1 := Aside0.mk hr1
  have HC1 := Aside0.mk hc1
  clear hr1 hc1
  have H : (if a0 ≥ 0 then (if a0 ≤ 10000 then (if (l1.length : Int) ≤ 200 then (some (decide ((l1.length : Int) ≤ a0))) else (some false)) else (some false)) else (some false)) = some r := h
  clear h
  by_cases c3 : a0 ≥ 0
  · rw [if_pos c3] at H
    have c3b0 : decide (0 ≤ a0) = true := decide_eq_true c3
    clear c3
    by_cases c4 : a0 ≤ 10000
    · rw [if_pos c4] at H
      have c4b0 : decide (a0 ≤ 10000) = true := decide_eq_true c4
      clear c4
      by_cases c5 : (l1.length : Int) ≤ 200
      · rw [if_pos c5] at H
        have c5b0 : decide ((l1.length : Int) ≤ 200) = true := decide_eq_true c5
        have c5b1 : decide (l1.length ≤ 200) = true := decide_eq_true (by omega)
        clear c5
        obtain rfl := Option.some.inj H
        go_enter Tryd.func43, Tryd.ntmps43
        go_wp2
        go_ret
        exact ⟨by first | rfl | (simp; done) | (simp [*]; done), by repeat (first | exact Drawn0.refl _ | apply Drawn0.step)⟩
      · rw [if_neg c5] at H
        have c5b0 : decide ((l1.length : Int) ≤ 200) = false := decide_eq_false c5
        have c5b1 : decide (l1.length ≤ 200) = false := decide_eq_false (by omega)
        clear c5
        obtain rfl := Option.some.inj H
        go_enter Tryd.func43, Tryd.ntmps43
        go_wp2
        go_ret
        exact ⟨by first | rfl | (simp; done) | (simp [*]; done), by repeat (first | exact Drawn0.refl _ | apply Drawn0.step)⟩
    · rw [if_neg c4] at H
      have c4b0 : decide (a0 ≤ 10000) = false := decide_eq_false c4
      clear c4
      obtain rfl := Option.some.inj H
      go_enter Tryd.func43, Tryd.ntmps43
      go_wp2
      go_ret
      exact ⟨by first | rfl | (simp; done) | (simp [*]; done), by repeat (first | exact Drawn0.refl _ | apply Drawn0.step)⟩
  · rw [if_neg c3] at H
    have c3b0 : decide (0 ≤ a0) = false := decide_eq_false c3
    clear c3
    obtain rfl := Option.some.inj H
    go_enter Tryd.func43, Tryd.ntmps43
    go_wp2
    go_ret
    exact ⟨by first | rfl | (simp; done) | (simp [*]; done), by repeat (first | exact Drawn0.refl _ | apply Drawn0.step)⟩

end Go.Proofs.YtgdbeiadlgkedaaDoor.PFnRowHeader
