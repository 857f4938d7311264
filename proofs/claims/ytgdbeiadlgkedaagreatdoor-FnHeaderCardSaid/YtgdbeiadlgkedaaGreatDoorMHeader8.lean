/- Contracts and plain laws, several texts in one. -/
import Derived.Test.YtgdbeiadlgkedaaGreatDoorMHeader6
set_option linter.unusedVariables false
set_option linter.unusedSimpArgs false
namespace Go.Proofs.YtgdbeiadlgkedaaGreatDoor.PFnHeader
open Go.RowKit Go.Proofs.YtgdbeiadlgkedaaGreatDoorW.PrintWords Go.Proofs.YtgdbeiadlgkedaaGreatDoorW.PrintLast Go.Proofs.YtgdbeiadlgkedaaGreatDoorW.PrintMore
def spec_CodVarint.l0 : Nat → Int → ByteArray → Option (ByteArray)
  | 0, _, _ => none
  | k + 1, x0, x3 => if x0 ≥ 128 then ((some (([Go.bits .or .u8 ((x0) % 256) 128] : List Int) : List Int)).bind fun y157 => (if x3.size + (strOfNums y157).size ≤ 9223372036854775807 then (spec_CodVarint.l0 k (x0 / 128) (x3 ++ (strOfNums y157))) else (none))) else ((some (([(x0) % 256] : List Int) : List Int)).bind fun y160 => (if x3.size + (strOfNums y160).size ≤ 9223372036854775807 then (some (x3 ++ (strOfNums y160))) else (none)))
def spec_CodVarint.f (k : Nat) (a0 : Int) : Option (ByteArray) := spec_CodVarint.l0 k a0 (⟨#[]⟩ : ByteArray)
theorem spec_CodVarint.mono_l : ∀ k, (∀ y0 y1, LeO (spec_CodVarint.l0 k y0 y1) (spec_CodVarint.l0 (k + 1) y0 y1))
  | 0 => fun _ _ r h => by simp [spec_CodVarint.l0] at h
  | k + 1 => by
    have ih0 := spec_CodVarint.mono_l k
    · intro y0 y1
      unfold spec_CodVarint.l0
      repeat' first
      | (with_reducible exact ih0 _ _)
      | (with_reducible exact LeO.refl _)
      | (with_reducible exact LeO.none _)
      | (with_reducible refine LeO.ite ?_ ?_)
      | (with_reducible refine LeO.bind ?_ (fun _ => ?_))
      | exact ih0 _ _
      | exact LeO.none _
      | refine LeO.ite ?_ ?_
      | refine LeO.bind ?_ (fun _ => ?_)
theorem spec_CodVarint.mono : ∀ a0 k, LeO (spec_CodVarint.f k a0) (spec_CodVarint.f (k + 1) a0) := by
  intro a0 k
  have ih0 := spec_CodVarint.mono_l k
  unfold spec_CodVarint.f
  repeat' first
      | (with_reducible exact ih0 _ _)
      | (with_reducible exact LeO.refl _)
      | (with_reducible exact LeO.none _)
      | (with_reducible refine LeO.ite ?_ ?_)
      | (with_reducible refine LeO.bind ?_ (fun _ => ?_))
      | exact ih0 _ _
      | exact LeO.none _
      | refine LeO.ite ?_ ?_
      | refine LeO.bind ?_ (fun _ => ?_)
set_option maxHeartbeats 8000000 in
set_option maxRecDepth 100000 in
theorem spec_CodVarint.calls (k : Nat) (a0 : Int) (r : ByteArray) (w : World) (h : spec_CodVarint.f k a0 = some r) :
    Calls Tryz.prog 47 #[.int .u64 a0] w fun e w' => e = .returned (.string r) ∧ Below w.heap.size w w' := by
  have HB := Aside0.mk (Below.refl w.heap.size w)
  have H : (spec_CodVarint.l0 k a0 (⟨#[]⟩ : ByteArray)) = some r := h
  clear h
  have H' := Aside0.mk H
  clear H
  go_enter Tryz.func47, Tryz.ntmps47
  go_wp2
  go_loopg [0, 3] k (fun kq v0 v3 w' => ∃ (x0_1 : Int) (x3_1 : ByteArray), v0 = .int .u64 x0_1 ∧ v3 = .string x3_1 ∧ Aside0 (spec_CodVarint.l0 kq x0_1 x3_1 = some r) ∧ Aside0 (kq ≤ k) ∧ Aside0 (Below w.heap.size w w'))
  case atStart => exact ⟨(a0), ((⟨#[]⟩ : ByteArray)), (by first | rfl | (simp; done) | (simp [*]; done)), (by first | rfl | (simp; done) | (simp [*]; done)), H', ⟨Nat.le_refl _⟩, ⟨by repeat (first | (with_reducible first | exact HB.out | apply below_alloc | apply pw_below_drewN | apply below_drew1) | exact HB.out)⟩⟩
  case round =>
    clear H'
    obtain ⟨x0_1, x3_1, rfl, rfl, HA, HK1, HB⟩ := hrel
    cases gk with
    | zero => exact absurd HA.out (by simp [spec_CodVarint.l0])
    | succ k1 =>
      have H := HA.out
      clear HA
      simp only [spec_CodVarint.l0] at H
      by_cases c2 : x0_1 ≥ 128
      · rw [if_pos c2] at H
        have c2b0 : decide (128 ≤ x0_1) = true := decide_eq_true c2
        clear c2
        obtain ⟨y157, hy157⟩ : ∃ y_ : List Int, y_ = (([Go.bits .or .u8 ((x0_1) % 256) 128] : List Int)) := ⟨_, rfl⟩
        replace H : (if x3_1.size + (strOfNums y157).size ≤ 9223372036854775807 then (spec_CodVarint.l0 k1 (x0_1 / 128) (x3_1 ++ (strOfNums y157))) else (none)) = some r := by first | (rw [hy157]; with_reducible exact H) | (have H2_ := (Option.bind_some _ _).symm.trans H; rw [hy157]; with_reducible exact H2_) | (have H2_ := (Option.bind_some _ _).symm.trans H; with_reducible exact H2_) | with_reducible exact H | (rw [hy157]; exact H) | exact H
        have Ny157 := Aside0.mk hy157
        clear hy157
        by_cases c3 : x3_1.size + (strOfNums y157).size ≤ 9223372036854775807
        · rw [if_pos c3] at H
          have c3b0 := eq_true c3
          have c3b1 : decide (x3_1.size + (strOfNums y157).size ≤ 9223372036854775807) = true := decide_eq_true c3
          try have c3b2 : (9223372036854775807 < x3_1.size + (strOfNums y157).size) = False := eq_false (Nat.not_lt.2 c3)
          try (have c3b3 := c3b2; simp only [ByteArray.size_append] at c3b3)
          have H' := Aside0.mk H
          clear H
          go_wp2_with (first | ((with_reducible refine gate_dst (N := 10) rfl ?_); refine Kd.R_lit (Kd.int .u8) _ 5 ?hg (N := 10) ?hd (xs := ([Go.bits .or .u8 ((x0_1) % 256) 128] : List Int)) (inner := [.int .u8 (Go.bits .or .u8 ((x0_1) % 256) 128)]) (ok := fun _ => True) (okp := fun _ => True) ?hr ?hp (fun _ hk => hk) trivial (Below.refl _ _) (Nat.le_refl _) (by simp) ?_; (case hd => rfl); (case hg => rfl); (case hr => first | (go_simp; done) | (go_simp; rfl)); (case hp => exact (Reps.one (show Kd.M (Kd.int .u8) _ _ _ (Go.bits .or .u8 ((x0_1) % 256) 128) [.int .u8 (Go.bits .or .u8 ((x0_1) % 256) 128)] from rfl) (Reps.none _ _))); intro v158 w4 ho5 hb hg_ hnew_; clear hg_ hnew_; (first | rw [← Ny157.out] at ho5 | (simp only [Int.reduceToNat] at ho5; rw [← Ny157.out] at ho5)); have n0_ := Aside0.mk (Kd.R_lower ho5 (below_size (by repeat (first | (with_reducible first | exact HB.out | apply below_alloc | apply pw_below_drewN | apply below_drew1) | exact HB.out)))); have n1_ := Aside0.mk (below_step (by repeat (first | (with_reducible first | exact HB.out | apply below_alloc | apply pw_below_drewN | apply below_drew1) | exact HB.out)) hb); clear HB; have HO159 := n0_; have HB := n1_; clear n0_ n1_; clear hb ho5; have hcv6 := own_string (P := Tryz.prog) Tryz.underlying77 Tryz.underlying5 Tryz.underlying9 (Kd.own_of_R HO159.out)))
          go_roundg k1
          case measure => have := HK1.out; omega
          case rel => exact ⟨(x0_1 / 128), (x3_1 ++ (strOfNums y157)), (by first | rfl | (simp; done) | (simp [*]; done)), (by first | rfl | (simp; done) | (simp [*]; done)), H', ⟨by have := HK1.out; omega⟩, ⟨by repeat (first | (with_reducible first | exact HB.out | apply below_alloc | apply pw_below_drewN | apply below_drew1) | exact HB.out)⟩⟩
        · rw [if_neg c3] at H
          exact absurd H (by simp)
      · rw [if_neg c2] at H
        have c2b0 : decide (128 ≤ x0_1) = false := decide_eq_false c2
        clear c2
        obtain ⟨y160, hy160⟩ : ∃ y_ : List Int, y_ = (([(x0_1) % 256] : List Int)) := ⟨_, rfl⟩
        replace H : (if x3_1.size + (strOfNums y160).size ≤ 9223372036854775807 then (some (x3_1 ++ (strOfNums y160))) else (none)) = some r := by first | (rw [hy160]; with_reducible exact H) | (have H2_ := (Option.bind_some _ _).symm.trans H; rw [hy160]; with_reducible exact H2_) | (have H2_ := (Option.bind_some _ _).symm.trans H; with_reducible exact H2_) | with_reducible exact H | (rw [hy160]; exact H) | exact H
        have Ny160 := Aside0.mk hy160
        clear hy160
        by_cases c7 : x3_1.size + (strOfNums y160).size ≤ 9223372036854775807
        · rw [if_pos c7] at H
          have c7b0 := eq_true c7
          have c7b1 : decide (x3_1.size + (strOfNums y160).size ≤ 9223372036854775807) = true := decide_eq_true c7
          try have c7b2 : (9223372036854775807 < x3_1.size + (strOfNums y160).size) = False := eq_false (Nat.not_lt.2 c7)
          try (have c7b3 := c7b2; simp only [ByteArray.size_append] at c7b3)
          obtain rfl := Option.some.inj H
          go_wp2_with (first | ((with_reducible refine gate_dst (N := 18) rfl ?_); refine Kd.R_lit (Kd.int .u8) _ 5 ?hg (N := 18) ?hd (xs := ([(x0_1) % 256] : List Int)) (inner := [.int .u8 ((x0_1) % 256)]) (ok := fun _ => True) (okp := fun _ => True) ?hr ?hp (fun _ hk => hk) trivial (Below.refl _ _) (Nat.le_refl _) (by simp) ?_; (case hd => rfl); (case hg => rfl); (case hr => first | (go_simp; done) | (go_simp; rfl)); (case hp => exact (Reps.one (show Kd.M (Kd.int .u8) _ _ _ ((x0_1) % 256) [.int .u8 ((x0_1) % 256)] from rfl) (Reps.none _ _))); intro v161 w8 ho9 hb hg_ hnew_; clear hg_ hnew_; (first | rw [← Ny160.out] at ho9 | (simp only [Int.reduceToNat] at ho9; rw [← Ny160.out] at ho9)); have n0_ := Aside0.mk (Kd.R_lower ho9 (below_size (by repeat (first | (with_reducible first | exact HB.out | apply below_alloc | apply pw_below_drewN | apply below_drew1) | exact HB.out)))); have n1_ := Aside0.mk (below_step (by repeat (first | (with_reducible first | exact HB.out | apply below_alloc | apply pw_below_drewN | apply below_drew1) | exact HB.out)) hb); clear HB; have HO162 := n0_; have HB := n1_; clear n0_ n1_; clear hb ho9; have hcv10 := own_string (P := Tryz.prog) Tryz.underlying77 Tryz.underlying5 Tryz.underlying9 (Kd.own_of_R HO162.out)))
          go_ret
          exact ⟨by first | rfl | (simp [errW_none, errW_some] <;> rfl) | (simp [*, errW_none, errW_some] <;> rfl), by repeat (first | (with_reducible first | exact HB.out | apply below_alloc | apply pw_below_drewN | apply below_drew1) | exact HB.out)⟩
        · rw [if_neg c7] at H
          exact absurd H (by simp)
mutual
def spec_CodPaned.j0 : Nat → Int → Int → Bool → Bool → Int → Int → Option (ByteArray)
  | 0, _, _, _, _, _, _ => none
  | k + 1, x3, x171000, x171001, x171002, x171003, x171004 => if x171002 = true then (spec_CodPaned.j1 k (Go.bits .or .u8 x3 2) x171000 x171001 x171002 x171003 x171004) else (spec_CodPaned.j1 k x3 x171000 x171001 x171002 x171003 x171004)
def spec_CodPaned.j1 : Nat → Int → Int → Bool → Bool → Int → Int → Option (ByteArray)
  | 0, _, _, _, _, _, _ => none
  | k + 1, x3, x171000, x171001, x171002, x171003, x171004 => if x171003 = 0 then (if x171004 = 0 then (spec_CodPaned.j2 k x3 true x171000 x171001 x171002 x171003 x171004) else (spec_CodPaned.j2 k x3 (x171000 == 3) x171000 x171001 x171002 x171003 x171004)) else (spec_CodPaned.j2 k x3 (x171000 == 3) x171000 x171001 x171002 x171003 x171004)
def spec_CodPaned.j2 : Nat → Int → Bool → Int → Bool → Bool → Int → Int → Option (ByteArray)
  | 0, _, _, _, _, _, _, _ => none
  | k + 1, x3, x16, x171000, x171001, x171002, x171003, x171004 => if x16 = true then (some (strOfNums (([x3] : List Int)))) else (if x171003 = x171004 then (spec_CodPaned.j3 k x3 true x171000 x171001 x171002 x171003 x171004) else (spec_CodPaned.j3 k x3 (x171000 == 0) x171000 x171001 x171002 x171003 x171004))
def spec_CodPaned.j3 : Nat → Int → Bool → Int → Bool → Bool → Int → Int → Option (ByteArray)
  | 0, _, _, _, _, _, _, _ => none
  | k + 1, x3, x33, x171000, x171001, x171002, x171003, x171004 => if x33 = true then ((some (([Go.bits .or .u8 x3 16] : List Int) : List Int)).bind fun y174 => ((spec_CodVarint.f k (IntKind.u64.wrap (x171003))).bind fun t177 => (if (strOfNums y174).size + t177.size ≤ 9223372036854775807 then (some ((strOfNums y174) ++ t177)) else (none)))) else ((some (([Go.bits .or .u8 x3 32] : List Int) : List Int)).bind fun y178 => ((spec_CodVarint.f k (IntKind.u64.wrap (x171003))).bind fun t181 => (if (strOfNums y178).size + t181.size ≤ 9223372036854775807 then ((spec_CodVarint.f k (IntKind.u64.wrap (x171004))).bind fun t182 => (if ((strOfNums y178) ++ t181).size + t182.size ≤ 9223372036854775807 then (some (((strOfNums y178) ++ t181) ++ t182)) else (none))) else (none))))
end
def spec_CodPaned.f (k : Nat) (a0_0 : Int) (a0_1 : Bool) (a0_2 : Bool) (a0_3 : Int) (a0_4 : Int) : Option (ByteArray) := if a0_1 = true then (spec_CodPaned.j0 k (Go.bits .or .u8 ((wrap64 (a0_0 * 4)) % 256) 1) a0_0 a0_1 a0_2 a0_3 a0_4) else (spec_CodPaned.j0 k ((wrap64 (a0_0 * 4)) % 256) a0_0 a0_1 a0_2 a0_3 a0_4)
theorem spec_CodPaned.mono_l : ∀ k, (∀ y0 y1 y2 y3 y4 y5, LeO (spec_CodPaned.j0 k y0 y1 y2 y3 y4 y5) (spec_CodPaned.j0 (k + 1) y0 y1 y2 y3 y4 y5)) ∧ (∀ y0 y1 y2 y3 y4 y5, LeO (spec_CodPaned.j1 k y0 y1 y2 y3 y4 y5) (spec_CodPaned.j1 (k + 1) y0 y1 y2 y3 y4 y5)) ∧ (∀ y0 y1 y2 y3 y4 y5 y6, LeO (spec_CodPaned.j2 k y0 y1 y2 y3 y4 y5 y6) (spec_CodPaned.j2 (k + 1) y0 y1 y2 y3 y4 y5 y6)) ∧ (∀ y0 y1 y2 y3 y4 y5 y6, LeO (spec_CodPaned.j3 k y0 y1 y2 y3 y4 y5 y6) (spec_CodPaned.j3 (k + 1) y0 y1 y2 y3 y4 y5 y6))
  | 0 => ⟨fun _ _ _ _ _ _ r h => by simp [spec_CodPaned.j0] at h, fun _ _ _ _ _ _ r h => by simp [spec_CodPaned.j1] at h, fun _ _ _ _ _ _ _ r h => by simp [spec_CodPaned.j2] at h, fun _ _ _ _ _ _ _ r h => by simp [spec_CodPaned.j3] at h⟩
  | k + 1 => by
    obtain ⟨ih0, ih1, ih2, ih3⟩ := spec_CodPaned.mono_l k
    refine ⟨?_, ?_, ?_, ?_⟩
    · intro y0 y1 y2 y3 y4 y5
      unfold spec_CodPaned.j0
      repeat' first
      | (with_reducible exact ih0 _ _ _ _ _ _)
      | (with_reducible exact ih1 _ _ _ _ _ _)
      | (with_reducible exact ih2 _ _ _ _ _ _ _)
      | (with_reducible exact ih3 _ _ _ _ _ _ _)
      | (with_reducible exact spec_CodVarint.mono _ _)
      | (with_reducible exact LeO.refl _)
      | (with_reducible exact LeO.none _)
      | (with_reducible refine LeO.ite ?_ ?_)
      | (with_reducible refine LeO.bind ?_ (fun _ => ?_))
      | exact ih0 _ _ _ _ _ _
      | exact ih1 _ _ _ _ _ _
      | exact ih2 _ _ _ _ _ _ _
      | exact ih3 _ _ _ _ _ _ _
      | exact spec_CodVarint.mono _ _
      | exact LeO.none _
      | refine LeO.ite ?_ ?_
      | refine LeO.bind ?_ (fun _ => ?_)
    · intro y0 y1 y2 y3 y4 y5
      unfold spec_CodPaned.j1
      repeat' first
      | (with_reducible exact ih0 _ _ _ _ _ _)
      | (with_reducible exact ih1 _ _ _ _ _ _)
      | (with_reducible exact ih2 _ _ _ _ _ _ _)
      | (with_reducible exact ih3 _ _ _ _ _ _ _)
      | (with_reducible exact spec_CodVarint.mono _ _)
      | (with_reducible exact LeO.refl _)
      | (with_reducible exact LeO.none _)
      | (with_reducible refine LeO.ite ?_ ?_)
      | (with_reducible refine LeO.bind ?_ (fun _ => ?_))
      | exact ih0 _ _ _ _ _ _
      | exact ih1 _ _ _ _ _ _
      | exact ih2 _ _ _ _ _ _ _
      | exact ih3 _ _ _ _ _ _ _
      | exact spec_CodVarint.mono _ _
      | exact LeO.none _
      | refine LeO.ite ?_ ?_
      | refine LeO.bind ?_ (fun _ => ?_)
    · intro y0 y1 y2 y3 y4 y5 y6
      unfold spec_CodPaned.j2
      repeat' first
      | (with_reducible exact ih0 _ _ _ _ _ _)
      | (with_reducible exact ih1 _ _ _ _ _ _)
      | (with_reducible exact ih2 _ _ _ _ _ _ _)
      | (with_reducible exact ih3 _ _ _ _ _ _ _)
      | (with_reducible exact spec_CodVarint.mono _ _)
      | (with_reducible exact LeO.refl _)
      | (with_reducible exact LeO.none _)
      | (with_reducible refine LeO.ite ?_ ?_)
      | (with_reducible refine LeO.bind ?_ (fun _ => ?_))
      | exact ih0 _ _ _ _ _ _
      | exact ih1 _ _ _ _ _ _
      | exact ih2 _ _ _ _ _ _ _
      | exact ih3 _ _ _ _ _ _ _
      | exact spec_CodVarint.mono _ _
      | exact LeO.none _
      | refine LeO.ite ?_ ?_
      | refine LeO.bind ?_ (fun _ => ?_)
    · intro y0 y1 y2 y3 y4 y5 y6
      unfold spec_CodPaned.j3
      repeat' first
      | (with_reducible exact ih0 _ _ _ _ _ _)
      | (with_reducible exact ih1 _ _ _ _ _ _)
      | (with_reducible exact ih2 _ _ _ _ _ _ _)
      | (with_reducible exact ih3 _ _ _ _ _ _ _)
      | (with_reducible exact spec_CodVarint.mono _ _)
      | (with_reducible exact LeO.refl _)
      | (with_reducible exact LeO.none _)
      | (with_reducible refine LeO.ite ?_ ?_)
      | (with_reducible refine LeO.bind ?_ (fun _ => ?_))
      | exact ih0 _ _ _ _ _ _
      | exact ih1 _ _ _ _ _ _
      | exact ih2 _ _ _ _ _ _ _
      | exact ih3 _ _ _ _ _ _ _
      | exact spec_CodVarint.mono _ _
      | exact LeO.none _
      | refine LeO.ite ?_ ?_
      | refine LeO.bind ?_ (fun _ => ?_)
theorem spec_CodPaned.mono : ∀ a0 a1 a2 a3 a4 k, LeO (spec_CodPaned.f k a0 a1 a2 a3 a4) (spec_CodPaned.f (k + 1) a0 a1 a2 a3 a4) := by
  intro a0 a1 a2 a3 a4 k
  obtain ⟨ih0, ih1, ih2, ih3⟩ := spec_CodPaned.mono_l k
  unfold spec_CodPaned.f
  repeat' first
      | (with_reducible exact ih0 _ _ _ _ _ _)
      | (with_reducible exact ih1 _ _ _ _ _ _)
      | (with_reducible exact ih2 _ _ _ _ _ _ _)
      | (with_reducible exact ih3 _ _ _ _ _ _ _)
      | (with_reducible exact spec_CodVarint.mono _ _)
      | (with_reducible exact LeO.refl _)
      | (with_reducible exact LeO.none _)
      | (with_reducible refine LeO.ite ?_ ?_)
      | (with_reducible refine LeO.bind ?_ (fun _ => ?_))
      | exact ih0 _ _ _ _ _ _
      | exact ih1 _ _ _ _ _ _
      | exact ih2 _ _ _ _ _ _ _
      | exact ih3 _ _ _ _ _ _ _
      | exact spec_CodVarint.mono _ _
      | exact LeO.none _
      | refine LeO.ite ?_ ?_
      | refine LeO.bind ?_ (fun _ => ?_)
def spec_CodPaned.T9 : Bool × List (List Nat × List Nat) := (true, [([], []), ([0], [0]), ([1], [1]), ([2], [2]), ([], []), ([4], [4]), ([5], [5]), ([6], [6]), ([3, 7], [3, 7]), ([8, 7, 0, 1, 2, 3, 4, 5, 6, 7, 8], [8])])
def spec_CodPaned.B9 : List Nat := [0, 1, 3, 7, 0, 16, 48, 112, 255, 511]
theorem spec_CodPaned.tab9 : rtab .any (opsOf Tryz.f56 9) = spec_CodPaned.T9 := by kernel_rfl
theorem spec_CodPaned.bits9 : waitsOk spec_CodPaned.T9.2 spec_CodPaned.B9 = true := by kernel_rfl
def spec_CodPaned.T10 : Bool × List (List Nat × List Nat) := (true, [([], []), ([0], [0]), ([1], [1]), ([2], [2]), ([], []), ([4], [4]), ([5], [5]), ([6], [6]), ([3, 7], [3, 7]), ([], []), ([9], [9]), ([10], [10]), ([11, 7], [11]), ([8, 12], [8, 12]), ([13, 12, 0, 1, 2, 3, 4, 5, 6, 7, 8, 9, 10, 11, 12, 13], [13])])
def spec_CodPaned.B10 : List Nat := [0, 1, 3, 7, 0, 16, 48, 112, 255, 0, 512, 1536, 3824, 8191, 16383]
theorem spec_CodPaned.tab10 : rtab .any (opsOf Tryz.f56 10) = spec_CodPaned.T10 := by kernel_rfl
theorem spec_CodPaned.bits10 : waitsOk spec_CodPaned.T10.2 spec_CodPaned.B10 = true := by kernel_rfl
set_option maxHeartbeats 8000000 in
set_option maxRecDepth 100000 in
theorem spec_CodPaned.calls (k : Nat) (a0_0 : Int) (a0_1 : Bool) (a0_2 : Bool) (a0_3 : Int) (a0_4 : Int) (r : ByteArray) (w : World) (h : spec_CodPaned.f k a0_0 a0_1 a0_2 a0_3 a0_4 = some r) :
    Calls Tryz.prog 56 #[.agg #[.int .i64 a0_0, .bool a0_1, .bool a0_2, .int .i64 a0_3, .int .i64 a0_4]] w fun e w' => e = .returned (.string r) ∧ Below w.heap.size w w' := by
  have hu50 := Tryz.underlying50
  have HB := Aside0.mk (Below.refl w.heap.size w)
  have H : (if a0_1 = true then (spec_CodPaned.j0 k (Go.bits .or .u8 ((wrap64 (a0_0 * 4)) % 256) 1) a0_0 a0_1 a0_2 a0_3 a0_4) else (spec_CodPaned.j0 k ((wrap64 (a0_0 * 4)) % 256) a0_0 a0_1 a0_2 a0_3 a0_4)) = some r := h
  clear h
  have HC2 := Aside0.mk H
  clear H
  go_enter Tryz.func56, Tryz.ntmps56
  go_upto_if 9 with (first | ((with_reducible refine gate_dst (N := 1) rfl ?_); refine box_event ?hg (N := 1) ?hd (cs := #[.int .i64 a0_0, .bool a0_1, .bool a0_2, .int .i64 a0_3, .int .i64 a0_4]) (t := 50) ?hr ?_; (case hd => rfl); (case hg => rfl); (case hr => first | (go_simp; done) | (go_simp; rfl)); intro gb170 hg w3 hbox hb; have n0_ := Aside0.mk (below_step (by repeat (first | (with_reducible first | exact HB.out | apply below_alloc | apply pw_below_drewN | apply below_drew1) | exact HB.out)) hb); have n1_ := Aside0.mk (hbox); have n2_ := Aside0.mk ((by rw [hg]; exact (below_size (by repeat (first | (with_reducible first | exact HB.out | apply below_alloc | apply pw_below_drewN | apply below_drew1) | exact HB.out))) : w.heap.size ≤ gb170)); have n3_ := Aside0.mk ((by rw [hg]; exact (below_size (by repeat (first | (with_reducible first | exact HB.out | apply below_alloc | apply pw_below_drewN | apply below_drew1) | exact HB.out))) : w.heap.size ≤ gb170)); clear HB; have HB := n0_; have BK170 := n1_; have GW170 := n2_; have GE170 := n3_; clear n0_ n1_ n2_ n3_; clear hb hbox hg; have hcz4_0 : w3.cell? ⟨gb170, 0, none⟩ = some (.int .i64 a0_0) := (blk_cell BK170.out 0).trans rfl; have hcz4_1 : w3.cell? ⟨gb170, 1, none⟩ = some (.bool a0_1) := (blk_cell BK170.out 1).trans rfl; have hcz4_2 : w3.cell? ⟨gb170, 2, none⟩ = some (.bool a0_2) := (blk_cell BK170.out 2).trans rfl; have hcz4_3 : w3.cell? ⟨gb170, 3, none⟩ = some (.int .i64 a0_3) := (blk_cell BK170.out 3).trans rfl; have hcz4_4 : w3.cell? ⟨gb170, 4, none⟩ = some (.int .i64 a0_4) := (blk_cell BK170.out 4).trans rfl; have hfz4_0 := blk_frozen BK170.out 0; have hfz4_1 := blk_frozen BK170.out 1; have hfz4_2 := blk_frozen BK170.out 2; have hfz4_3 := blk_frozen BK170.out 3; have hfz4_4 := blk_frozen BK170.out 4))
  (try simp only [Act.put, List.setIfInBounds_toArray, List.set_cons_zero, List.set_cons_succ])
  go_cut [3] (fun v3 wc => ∃ (kq : Nat) (x3_1 : Int), v3 = .int .u8 x3_1 ∧ Aside0 (spec_CodPaned.j0 kq x3_1 a0_0 a0_1 a0_2 a0_3 a0_4 = some r) ∧ Aside0 (kq ≤ k) ∧ Aside0 (wc.heap[gb170]? = some (.cells #[.int .i64 a0_0, .bool a0_1, .bool a0_2, .int .i64 a0_3, .int .i64 a0_4] 50 (0, 0))) ∧ Aside0 (Below w.heap.size w wc))
  case first =>
    have H := HC2.out
    clear HC2
    by_cases c5 : a0_1 = true
    · subst c5
      have H1 : (spec_CodPaned.j0 k (Go.bits .or .u8 ((wrap64 (a0_0 * 4)) % 256) 1) a0_0 true a0_2 a0_3 a0_4) = some r := by rw [if_pos rfl] at H; exact H
      clear H
      have H := H1
      clear H1
      have H' := Aside0.mk H
      clear H
      go_wp2
      go_meet
      case rel => exact ⟨_, (Go.bits .or .u8 ((wrap64 (a0_0 * 4)) % 256) 1), (by first | rfl | (simp; done) | (simp [*]; done)), H', ⟨by first | omega | exact Nat.le_refl _⟩, ⟨by (with_reducible repeat (first | refine blk_drewN ?_ _ | refine blk_drew ?_ | refine blk_alloc ?_ _)); exact BK170.out⟩, ⟨by repeat (first | (with_reducible first | exact HB.out | apply below_alloc | apply pw_below_drewN | apply below_drew1 | refine below_set ?_ GE170.out) | exact HB.out)⟩⟩
    · replace c5 := Bool.eq_false_iff.mpr c5
      subst c5
      have H1 : (spec_CodPaned.j0 k ((wrap64 (a0_0 * 4)) % 256) a0_0 false a0_2 a0_3 a0_4) = some r := by rw [if_neg (show ¬ (false = true) by decide)] at H; exact H
      clear H
      have H := H1
      clear H1
      have H' := Aside0.mk H
      clear H
      go_wp2
      go_meet
      case rel => exact ⟨_, ((wrap64 (a0_0 * 4)) % 256), (by first | rfl | (simp; done) | (simp [*]; done)), H', ⟨by first | omega | exact Nat.le_refl _⟩, ⟨by (with_reducible repeat (first | refine blk_drewN ?_ _ | refine blk_drew ?_ | refine blk_alloc ?_ _)); exact BK170.out⟩, ⟨by repeat (first | (with_reducible first | exact HB.out | apply below_alloc | apply pw_below_drewN | apply below_drew1 | refine below_set ?_ GE170.out) | exact HB.out)⟩⟩
  case rest =>
    clear HC2
    try clear p2
    try clear c5
    try clear hcz4_0
    try clear hcz4_1
    try clear hcz4_2
    try clear hcz4_3
    try clear hcz4_4
    try clear hfz4_0
    try clear hfz4_1
    try clear hfz4_2
    try clear hfz4_3
    try clear hfz4_4
    obtain ⟨kq, x3_1, rfl, HA, HJ1, BK170, HB⟩ := hcut
    cases kq with
    | zero => exact absurd HA.out (by simp [spec_CodPaned.j0])
    | succ kj1 =>
      have H := HA.out
      clear HA
      simp only [spec_CodPaned.j0] at H
      have HC6 := Aside0.mk H
      clear H
      have hcz7_0 : wc.cell? ⟨gb170, 0, none⟩ = some (.int .i64 a0_0) := (blk_cell BK170.out 0).trans rfl
      have hcz7_1 : wc.cell? ⟨gb170, 1, none⟩ = some (.bool a0_1) := (blk_cell BK170.out 1).trans rfl
      have hcz7_2 : wc.cell? ⟨gb170, 2, none⟩ = some (.bool a0_2) := (blk_cell BK170.out 2).trans rfl
      have hcz7_3 : wc.cell? ⟨gb170, 3, none⟩ = some (.int .i64 a0_3) := (blk_cell BK170.out 3).trans rfl
      have hcz7_4 : wc.cell? ⟨gb170, 4, none⟩ = some (.int .i64 a0_4) := (blk_cell BK170.out 4).trans rfl
      have hfz7_0 := blk_frozen BK170.out 0
      have hfz7_1 := blk_frozen BK170.out 1
      have hfz7_2 := blk_frozen BK170.out 2
      have hfz7_3 := blk_frozen BK170.out 3
      have hfz7_4 := blk_frozen BK170.out 4
      go_upto_if 13 with (fail)
      go_cut [3] (fun v3 wc => ∃ (kq : Nat) (x3_5 : Int), v3 = .int .u8 x3_5 ∧ Aside0 (spec_CodPaned.j1 kq x3_5 a0_0 a0_1 a0_2 a0_3 a0_4 = some r) ∧ Aside0 (kq ≤ kj1) ∧ Aside0 (wc.heap[gb170]? = some (.cells #[.int .i64 a0_0, .bool a0_1, .bool a0_2, .int .i64 a0_3, .int .i64 a0_4] 50 (0, 0))) ∧ Aside0 (Below w.heap.size w wc))
      case first =>
        have H := HC6.out
        clear HC6
        by_cases c8 : a0_2 = true
        · subst c8
          have H1 : (spec_CodPaned.j1 kj1 (Go.bits .or .u8 x3_1 2) a0_0 a0_1 true a0_3 a0_4) = some r := by rw [if_pos rfl] at H; exact H
          clear H
          have H := H1
          clear H1
          have H' := Aside0.mk H
          clear H
          go_wp2
          go_meet
          case rel => exact ⟨_, (Go.bits .or .u8 x3_1 2), (by first | rfl | (simp; done) | (simp [*]; done)), H', ⟨by have := HJ1.out; first | omega | exact Nat.le_refl _⟩, ⟨by (with_reducible repeat (first | refine blk_drewN ?_ _ | refine blk_drew ?_ | refine blk_alloc ?_ _)); exact BK170.out⟩, ⟨by repeat (first | (with_reducible first | exact HB.out | apply below_alloc | apply pw_below_drewN | apply below_drew1 | refine below_set ?_ GE170.out) | exact HB.out)⟩⟩
        · replace c8 := Bool.eq_false_iff.mpr c8
          subst c8
          have H1 : (spec_CodPaned.j1 kj1 x3_1 a0_0 a0_1 false a0_3 a0_4) = some r := by rw [if_neg (show ¬ (false = true) by decide)] at H; exact H
          clear H
          have H := H1
          clear H1
          have H' := Aside0.mk H
          clear H
          go_wp2
          go_meet
          case rel => exact ⟨_, (x3_1), (by first | rfl | (simp; done) | (simp [*]; done)), H', ⟨by have := HJ1.out; first | omega | exact Nat.le_refl _⟩, ⟨by (with_reducible repeat (first | refine blk_drewN ?_ _ | refine blk_drew ?_ | refine blk_alloc ?_ _)); exact BK170.out⟩, ⟨by repeat (first | (with_reducible first | exact HB.out | apply below_alloc | apply pw_below_drewN | apply below_drew1 | refine below_set ?_ GE170.out) | exact HB.out)⟩⟩
      case rest =>
        clear HC6
        try clear p2
        try clear c5
        try clear p6
        try clear c8
        try clear hcz4_0
        try clear hcz4_1
        try clear hcz4_2
        try clear hcz4_3
        try clear hcz4_4
        try clear hcz7_0
        try clear hcz7_1
        try clear hcz7_2
        try clear hcz7_3
        try clear hcz7_4
        try clear hfz4_0
        try clear hfz4_1
        try clear hfz4_2
        try clear hfz4_3
        try clear hfz4_4
        try clear hfz7_0
        try clear hfz7_1
        try clear hfz7_2
        try clear hfz7_3
        try clear hfz7_4
        try clear p2
        obtain ⟨kq, x3_5, rfl, HA, HJ5, BK170, HB⟩ := hcut
        cases kq with
        | zero => exact absurd HA.out (by simp [spec_CodPaned.j1])
        | succ kj5 =>
          have H := HA.out
          clear HA
          simp only [spec_CodPaned.j1] at H
          have HC9 := Aside0.mk H
          clear H
          go_upto_region 6 with (fail)
          go_cut [16] (fun v16 wc => ∃ (kq : Nat) (x16_8 : Bool), v16 = .bool x16_8 ∧ Aside0 (spec_CodPaned.j2 kq x3_5 x16_8 a0_0 a0_1 a0_2 a0_3 a0_4 = some r) ∧ Aside0 (kq ≤ kj5) ∧ Aside0 (wc.heap[gb170]? = some (.cells #[.int .i64 a0_0, .bool a0_1, .bool a0_2, .int .i64 a0_3, .int .i64 a0_4] 50 (0, 0))) ∧ Aside0 (Below w.heap.size w wc))
          case first =>
            have H := HC9.out
            clear HC9
            by_cases c10 : a0_3 = 0
            · rw [if_pos c10] at H
              have c10b0 : (a0_3 == 0) = true := beq_iff_eq.mpr c10
              have c10b1 : (a0_3 != 0) = false := bne_eq_false_iff_eq.mpr c10
              clear c10
              (first | rw [c10b0] | (simp only [i64_w, i32_w]; rw [c10b0]) | skip)
              by_cases c11 : a0_4 = 0
              · rw [if_pos c11] at H
                have c11b0 : (a0_4 == 0) = true := beq_iff_eq.mpr c11
                have c11b1 : (a0_4 != 0) = false := bne_eq_false_iff_eq.mpr c11
                clear c11
                have H' := Aside0.mk H
                clear H
                have hcz12_0 : wc.cell? ⟨gb170, 0, none⟩ = some (.int .i64 a0_0) := (blk_cell BK170.out 0).trans rfl
                have hcz12_1 : wc.cell? ⟨gb170, 1, none⟩ = some (.bool a0_1) := (blk_cell BK170.out 1).trans rfl
                have hcz12_2 : wc.cell? ⟨gb170, 2, none⟩ = some (.bool a0_2) := (blk_cell BK170.out 2).trans rfl
                have hcz12_3 : wc.cell? ⟨gb170, 3, none⟩ = some (.int .i64 a0_3) := (blk_cell BK170.out 3).trans rfl
                have hcz12_4 : wc.cell? ⟨gb170, 4, none⟩ = some (.int .i64 a0_4) := (blk_cell BK170.out 4).trans rfl
                have hfz12_0 := blk_frozen BK170.out 0
                have hfz12_1 := blk_frozen BK170.out 1
                have hfz12_2 := blk_frozen BK170.out 2
                have hfz12_3 := blk_frozen BK170.out 3
                have hfz12_4 := blk_frozen BK170.out 4
                go_wp2
                go_meet
                case rel => exact ⟨_, (true), (by first | rfl | (simp; done) | (simp [*]; done)), H', ⟨by have := HJ1.out; have := HJ5.out; first | omega | exact Nat.le_refl _⟩, ⟨by (with_reducible repeat (first | refine blk_drewN ?_ _ | refine blk_drew ?_ | refine blk_alloc ?_ _)); exact BK170.out⟩, ⟨by repeat (first | (with_reducible first | exact HB.out | apply below_alloc | apply pw_below_drewN | apply below_drew1 | refine below_set ?_ GE170.out) | exact HB.out)⟩⟩
              · rw [if_neg c11] at H
                have c11b0 : (a0_4 == 0) = false := beq_eq_false_iff_ne.mpr c11
                have c11b1 : (a0_4 != 0) = true := bne_iff_ne.mpr c11
                have H' := Aside0.mk H
                clear H
                have hcz13_0 : wc.cell? ⟨gb170, 0, none⟩ = some (.int .i64 a0_0) := (blk_cell BK170.out 0).trans rfl
                have hcz13_1 : wc.cell? ⟨gb170, 1, none⟩ = some (.bool a0_1) := (blk_cell BK170.out 1).trans rfl
                have hcz13_2 : wc.cell? ⟨gb170, 2, none⟩ = some (.bool a0_2) := (blk_cell BK170.out 2).trans rfl
                have hcz13_3 : wc.cell? ⟨gb170, 3, none⟩ = some (.int .i64 a0_3) := (blk_cell BK170.out 3).trans rfl
                have hcz13_4 : wc.cell? ⟨gb170, 4, none⟩ = some (.int .i64 a0_4) := (blk_cell BK170.out 4).trans rfl
                have hfz13_0 := blk_frozen BK170.out 0
                have hfz13_1 := blk_frozen BK170.out 1
                have hfz13_2 := blk_frozen BK170.out 2
                have hfz13_3 := blk_frozen BK170.out 3
                have hfz13_4 := blk_frozen BK170.out 4
                go_wp2
                go_meet
                case rel => exact ⟨_, ((a0_0 == 3)), (by first | rfl | (simp; done) | (simp [*]; done)), H', ⟨by have := HJ1.out; have := HJ5.out; first | omega | exact Nat.le_refl _⟩, ⟨by (with_reducible repeat (first | refine blk_drewN ?_ _ | refine blk_drew ?_ | refine blk_alloc ?_ _)); exact BK170.out⟩, ⟨by repeat (first | (with_reducible first | exact HB.out | apply below_alloc | apply pw_below_drewN | apply below_drew1 | refine below_set ?_ GE170.out) | exact HB.out)⟩⟩
            · rw [if_neg c10] at H
              have c10b0 : (a0_3 == 0) = false := beq_eq_false_iff_ne.mpr c10
              have c10b1 : (a0_3 != 0) = true := bne_iff_ne.mpr c10
              (first | rw [c10b0] | (simp only [i64_w, i32_w]; rw [c10b0]) | skip)
              have H' := Aside0.mk H
              clear H
              have hcz14_0 : wc.cell? ⟨gb170, 0, none⟩ = some (.int .i64 a0_0) := (blk_cell BK170.out 0).trans rfl
              have hcz14_1 : wc.cell? ⟨gb170, 1, none⟩ = some (.bool a0_1) := (blk_cell BK170.out 1).trans rfl
              have hcz14_2 : wc.cell? ⟨gb170, 2, none⟩ = some (.bool a0_2) := (blk_cell BK170.out 2).trans rfl
              have hcz14_3 : wc.cell? ⟨gb170, 3, none⟩ = some (.int .i64 a0_3) := (blk_cell BK170.out 3).trans rfl
              have hcz14_4 : wc.cell? ⟨gb170, 4, none⟩ = some (.int .i64 a0_4) := (blk_cell BK170.out 4).trans rfl
              have hfz14_0 := blk_frozen BK170.out 0
              have hfz14_1 := blk_frozen BK170.out 1
              have hfz14_2 := blk_frozen BK170.out 2
              have hfz14_3 := blk_frozen BK170.out 3
              have hfz14_4 := blk_frozen BK170.out 4
              go_wp2
              go_meet
              case rel => exact ⟨_, ((a0_0 == 3)), (by first | rfl | (simp; done) | (simp [*]; done)), H', ⟨by have := HJ1.out; have := HJ5.out; first | omega | exact Nat.le_refl _⟩, ⟨by (with_reducible repeat (first | refine blk_drewN ?_ _ | refine blk_drew ?_ | refine blk_alloc ?_ _)); exact BK170.out⟩, ⟨by repeat (first | (with_reducible first | exact HB.out | apply below_alloc | apply pw_below_drewN | apply below_drew1 | refine below_set ?_ GE170.out) | exact HB.out)⟩⟩
          case rest =>
            clear HC9
            try clear c1
            try clear p2
            try clear c5
            try clear p6
            try clear c8
            try clear c10
            try clear c10b0
            try clear c10b1
            try clear c11
            try clear c11b0
            try clear c11b1
            try clear hcz12_0
            try clear hcz12_1
            try clear hcz12_2
            try clear hcz12_3
            try clear hcz12_4
            try clear hcz13_0
            try clear hcz13_1
            try clear hcz13_2
            try clear hcz13_3
            try clear hcz13_4
            try clear hcz14_0
            try clear hcz14_1
            try clear hcz14_2
            try clear hcz14_3
            try clear hcz14_4
            try clear hcz4_0
            try clear hcz4_1
            try clear hcz4_2
            try clear hcz4_3
            try clear hcz4_4
            try clear hcz7_0
            try clear hcz7_1
            try clear hcz7_2
            try clear hcz7_3
            try clear hcz7_4
            try clear hfz12_0
            try clear hfz12_1
            try clear hfz12_2
            try clear hfz12_3
            try clear hfz12_4
            try clear hfz13_0
            try clear hfz13_1
            try clear hfz13_2
            try clear hfz13_3
            try clear hfz13_4
            try clear hfz14_0
            try clear hfz14_1
            try clear hfz14_2
            try clear hfz14_3
            try clear hfz14_4
            try clear hfz4_0
            try clear hfz4_1
            try clear hfz4_2
            try clear hfz4_3
            try clear hfz4_4
            try clear hfz7_0
            try clear hfz7_1
            try clear hfz7_2
            try clear hfz7_3
            try clear hfz7_4
            try clear p2
            try clear p6
            obtain ⟨kq, x16_8, rfl, HA, HJ8, BK170, HB⟩ := hcut
            cases kq with
            | zero => exact absurd HA.out (by simp [spec_CodPaned.j2])
            | succ kj8 =>
              have H := HA.out
              clear HA
              simp only [spec_CodPaned.j2] at H
              by_cases c15 : x16_8 = true
              · subst c15
                have H1 : (some (strOfNums (([x3_5] : List Int)))) = some r := by rw [if_pos rfl] at H; exact H
                clear H
                have H := H1
                clear H1
                obtain ⟨y171, hy171⟩ : ∃ y_ : List Int, y_ = (([x3_5] : List Int)) := ⟨_, rfl⟩
                replace H : (some (strOfNums y171)) = some r := by first | (rw [hy171]; with_reducible exact H) | (have H2_ := (Option.bind_some _ _).symm.trans H; rw [hy171]; with_reducible exact H2_) | (have H2_ := (Option.bind_some _ _).symm.trans H; with_reducible exact H2_) | with_reducible exact H | (rw [hy171]; exact H) | exact H
                have Ny171 := Aside0.mk hy171
                clear hy171
                obtain rfl := Option.some.inj H
                go_wp2_with (first | ((with_reducible refine gate_dst (N := 31) rfl ?_); refine Kd.R_lit (Kd.int .u8) _ 5 ?hg (N := 31) ?hd (xs := ([x3_5] : List Int)) (inner := [.int .u8 x3_5]) (ok := fun _ => True) (okp := fun _ => True) ?hr ?hp (fun _ hk => hk) trivial (Below.refl _ _) (Nat.le_refl _) (by simp) ?_; (case hd => rfl); (case hg => rfl); (case hr => first | (go_simp; done) | (go_simp; rfl)); (case hp => exact (Reps.one (show Kd.M (Kd.int .u8) _ _ _ x3_5 [.int .u8 x3_5] from rfl) (Reps.none _ _))); intro v172 w16 ho17 hb hg_ hnew_; clear hg_ hnew_; (first | rw [← Ny171.out] at ho17 | (simp only [Int.reduceToNat] at ho17; rw [← Ny171.out] at ho17)); have n0_ := Aside0.mk (Kd.R_lower ho17 (below_size (by repeat (first | (with_reducible first | exact HB.out | apply below_alloc | apply pw_below_drewN | apply below_drew1 | refine below_set ?_ GE170.out) | exact HB.out)))); have n1_ := Aside0.mk (blk_below (g := gb170) (o := .cells #[.int .i64 a0_0, .bool a0_1, .bool a0_2, .int .i64 a0_3, .int .i64 a0_4] 50 (0, 0)) (by (with_reducible repeat (first | refine blk_drewN ?_ _ | refine blk_drew ?_ | refine blk_alloc ?_ _)); exact BK170.out) hb); have n2_ := Aside0.mk (below_step (by repeat (first | (with_reducible first | exact HB.out | apply below_alloc | apply pw_below_drewN | apply below_drew1 | refine below_set ?_ GE170.out) | exact HB.out)) hb); clear BK170; clear HB; have HO173 := n0_; have BK170 := n1_; have HB := n2_; clear n0_ n1_ n2_; clear hb ho17; have hcv18 := own_string (P := Tryz.prog) Tryz.underlying77 Tryz.underlying5 Tryz.underlying9 (Kd.own_of_R HO173.out)))
                go_ret
                exact ⟨by first | rfl | (simp [errW_none, errW_some] <;> rfl) | (simp [*, errW_none, errW_some] <;> rfl), by repeat (first | (with_reducible first | exact HB.out | apply below_alloc | apply pw_below_drewN | apply below_drew1 | refine below_set ?_ GE170.out) | exact HB.out)⟩
              · replace c15 := Bool.eq_false_iff.mpr c15
                subst c15
                have H1 : (if a0_3 = a0_4 then (spec_CodPaned.j3 kj8 x3_5 true a0_0 a0_1 a0_2 a0_3 a0_4) else (spec_CodPaned.j3 kj8 x3_5 (a0_0 == 0) a0_0 a0_1 a0_2 a0_3 a0_4)) = some r := by rw [if_neg (show ¬ (false = true) by decide)] at H; exact H
                clear H
                have H := H1
                clear H1
                have HC19 := Aside0.mk H
                clear H
                go_upto_region 8 with (fail)
                go_cut [33] (fun v33 wc => ∃ (kq : Nat) (x33_18 : Bool), v33 = .bool x33_18 ∧ Aside0 (spec_CodPaned.j3 kq x3_5 x33_18 a0_0 a0_1 a0_2 a0_3 a0_4 = some r) ∧ Aside0 (kq ≤ kj8) ∧ Aside0 (wc.heap[gb170]? = some (.cells #[.int .i64 a0_0, .bool a0_1, .bool a0_2, .int .i64 a0_3, .int .i64 a0_4] 50 (0, 0))) ∧ Aside0 (Below w.heap.size w wc))
                case first =>
                  have H := HC19.out
                  clear HC19
                  by_cases c20 : a0_3 = a0_4
                  · rw [if_pos c20] at H
                    have c20b0 : (a0_3 == a0_4) = true := beq_iff_eq.mpr c20
                    have c20b1 : (a0_3 != a0_4) = false := bne_eq_false_iff_eq.mpr c20
                    clear c20
                    (first | rw [c20b0] | (simp only [i64_w, i32_w]; rw [c20b0]) | skip)
                    have H' := Aside0.mk H
                    clear H
                    have hcz21_0 : wc.cell? ⟨gb170, 0, none⟩ = some (.int .i64 a0_0) := (blk_cell BK170.out 0).trans rfl
                    have hcz21_1 : wc.cell? ⟨gb170, 1, none⟩ = some (.bool a0_1) := (blk_cell BK170.out 1).trans rfl
                    have hcz21_2 : wc.cell? ⟨gb170, 2, none⟩ = some (.bool a0_2) := (blk_cell BK170.out 2).trans rfl
                    have hcz21_3 : wc.cell? ⟨gb170, 3, none⟩ = some (.int .i64 a0_3) := (blk_cell BK170.out 3).trans rfl
                    have hcz21_4 : wc.cell? ⟨gb170, 4, none⟩ = some (.int .i64 a0_4) := (blk_cell BK170.out 4).trans rfl
                    have hfz21_0 := blk_frozen BK170.out 0
                    have hfz21_1 := blk_frozen BK170.out 1
                    have hfz21_2 := blk_frozen BK170.out 2
                    have hfz21_3 := blk_frozen BK170.out 3
                    have hfz21_4 := blk_frozen BK170.out 4
                    go_wp2
                    go_meet
                    case rel => exact ⟨_, (true), (by first | rfl | (simp; done) | (simp [*]; done)), H', ⟨by have := HJ1.out; have := HJ5.out; have := HJ8.out; first | omega | exact Nat.le_refl _⟩, ⟨by (with_reducible repeat (first | refine blk_drewN ?_ _ | refine blk_drew ?_ | refine blk_alloc ?_ _)); exact BK170.out⟩, ⟨by repeat (first | (with_reducible first | exact HB.out | apply below_alloc | apply pw_below_drewN | apply below_drew1 | refine below_set ?_ GE170.out) | exact HB.out)⟩⟩
                  · rw [if_neg c20] at H
                    have c20b0 : (a0_3 == a0_4) = false := beq_eq_false_iff_ne.mpr c20
                    have c20b1 : (a0_3 != a0_4) = true := bne_iff_ne.mpr c20
                    (first | rw [c20b0] | (simp only [i64_w, i32_w]; rw [c20b0]) | skip)
                    have H' := Aside0.mk H
                    clear H
                    have hcz22_0 : wc.cell? ⟨gb170, 0, none⟩ = some (.int .i64 a0_0) := (blk_cell BK170.out 0).trans rfl
                    have hcz22_1 : wc.cell? ⟨gb170, 1, none⟩ = some (.bool a0_1) := (blk_cell BK170.out 1).trans rfl
                    have hcz22_2 : wc.cell? ⟨gb170, 2, none⟩ = some (.bool a0_2) := (blk_cell BK170.out 2).trans rfl
                    have hcz22_3 : wc.cell? ⟨gb170, 3, none⟩ = some (.int .i64 a0_3) := (blk_cell BK170.out 3).trans rfl
                    have hcz22_4 : wc.cell? ⟨gb170, 4, none⟩ = some (.int .i64 a0_4) := (blk_cell BK170.out 4).trans rfl
                    have hfz22_0 := blk_frozen BK170.out 0
                    have hfz22_1 := blk_frozen BK170.out 1
                    have hfz22_2 := blk_frozen BK170.out 2
                    have hfz22_3 := blk_frozen BK170.out 3
                    have hfz22_4 := blk_frozen BK170.out 4
                    go_wp2
                    go_meet
                    case rel => exact ⟨_, ((a0_0 == 0)), (by first | rfl | (simp; done) | (simp [*]; done)), H', ⟨by have := HJ1.out; have := HJ5.out; have := HJ8.out; first | omega | exact Nat.le_refl _⟩, ⟨by (with_reducible repeat (first | refine blk_drewN ?_ _ | refine blk_drew ?_ | refine blk_alloc ?_ _)); exact BK170.out⟩, ⟨by repeat (first | (with_reducible first | exact HB.out | apply below_alloc | apply pw_below_drewN | apply below_drew1 | refine below_set ?_ GE170.out) | exact HB.out)⟩⟩
                case rest =>
                  clear HC19
                  try clear c1
                  try clear hcv1
                  try clear c2
                  try clear p2
                  try clear c5
                  try clear p6
                  try clear c8
                  try clear c10
                  try clear c10b0
                  try clear c10b1
                  try clear c11
                  try clear c11b0
                  try clear c11b1
                  try clear c15
                  try clear hcv18
                  try clear c20
                  try clear c20b0
                  try clear c20b1
                  try clear hcz12_0
                  try clear hcz12_1
                  try clear hcz12_2
                  try clear hcz12_3
                  try clear hcz12_4
                  try clear hcz13_0
                  try clear hcz13_1
                  try clear hcz13_2
                  try clear hcz13_3
                  try clear hcz13_4
                  try clear hcz14_0
                  try clear hcz14_1
                  try clear hcz14_2
                  try clear hcz14_3
                  try clear hcz14_4
                  try clear hcz21_0
                  try clear hcz21_1
                  try clear hcz21_2
                  try clear hcz21_3
                  try clear hcz21_4
                  try clear hcz22_0
                  try clear hcz22_1
                  try clear hcz22_2
                  try clear hcz22_3
                  try clear hcz22_4
                  try clear hcz4_0
                  try clear hcz4_1
                  try clear hcz4_2
                  try clear hcz4_3
                  try clear hcz4_4
                  try clear hcz7_0
                  try clear hcz7_1
                  try clear hcz7_2
                  try clear hcz7_3
                  try clear hcz7_4
                  try clear hfz12_0
                  try clear hfz12_1
                  try clear hfz12_2
                  try clear hfz12_3
                  try clear hfz12_4
                  try clear hfz13_0
                  try clear hfz13_1
                  try clear hfz13_2
                  try clear hfz13_3
                  try clear hfz13_4
                  try clear hfz14_0
                  try clear hfz14_1
                  try clear hfz14_2
                  try clear hfz14_3
                  try clear hfz14_4
                  try clear hfz21_0
                  try clear hfz21_1
                  try clear hfz21_2
                  try clear hfz21_3
                  try clear hfz21_4
                  try clear hfz22_0
                  try clear hfz22_1
                  try clear hfz22_2
                  try clear hfz22_3
                  try clear hfz22_4
                  try clear hfz4_0
                  try clear hfz4_1
                  try clear hfz4_2
                  try clear hfz4_3
                  try clear hfz4_4
                  try clear hfz7_0
                  try clear hfz7_1
                  try clear hfz7_2
                  try clear hfz7_3
                  try clear hfz7_4
                  try clear p2
                  try clear p6
                  obtain ⟨kq, x33_18, rfl, HA, HJ18, BK170, HB⟩ := hcut
                  cases kq with
                  | zero => exact absurd HA.out (by simp [spec_CodPaned.j3])
                  | succ kj18 =>
                    have H := HA.out
                    clear HA
                    simp only [spec_CodPaned.j3] at H
                    by_cases c23 : x33_18 = true
                    · subst c23
                      have H1 : ((some (([Go.bits .or .u8 x3_5 16] : List Int) : List Int)).bind fun y174 => ((spec_CodVarint.f kj18 (IntKind.u64.wrap (a0_3))).bind fun t177 => (if (strOfNums y174).size + t177.size ≤ 9223372036854775807 then (some ((strOfNums y174) ++ t177)) else (none)))) = some r := by rw [if_pos rfl] at H; exact H
                      clear H
                      have H := H1
                      clear H1
                      obtain ⟨y174, hy174⟩ : ∃ y_ : List Int, y_ = (([Go.bits .or .u8 x3_5 16] : List Int)) := ⟨_, rfl⟩
                      replace H : ((spec_CodVarint.f kj18 (IntKind.u64.wrap (a0_3))).bind fun t177 => (if (strOfNums y174).size + t177.size ≤ 9223372036854775807 then (some ((strOfNums y174) ++ t177)) else (none))) = some r := by first | (rw [hy174]; with_reducible exact H) | (have H2_ := (Option.bind_some _ _).symm.trans H; rw [hy174]; with_reducible exact H2_) | (have H2_ := (Option.bind_some _ _).symm.trans H; with_reducible exact H2_) | with_reducible exact H | (rw [hy174]; exact H) | exact H
                      have Ny174 := Aside0.mk hy174
                      clear hy174
                      replace H := Option.bind_eq_some_iff.mp H
                      obtain ⟨t177, A240, H⟩ := H
                      replace H : (if (strOfNums y174).size + t177.size ≤ 9223372036854775807 then (some ((strOfNums y174) ++ t177)) else (none)) = some r := H
                      have A24 := Aside0.mk A240
                      clear A240
                      by_cases c25 : (strOfNums y174).size + t177.size ≤ 9223372036854775807
                      · rw [if_pos c25] at H
                        have c25b0 := eq_true c25
                        have c25b1 : decide ((strOfNums y174).size + t177.size ≤ 9223372036854775807) = true := decide_eq_true c25
                        try have c25b2 : (9223372036854775807 < (strOfNums y174).size + t177.size) = False := eq_false (Nat.not_lt.2 c25)
                        try (have c25b3 := c25b2; simp only [ByteArray.size_append] at c25b3)
                        obtain rfl := Option.some.inj H
                        try go_wp2
                        have n0_ := Aside0.mk (blk_drew BK170.out)
                        have n1_ := Aside0.mk (below_drew1 HB.out)
                        clear BK170
                        clear HB
                        have BK170 := n0_
                        have HB := n1_
                        clear n0_ n1_
                        refine start_ (n := 10) (S := fun w' => w'.cell? ⟨gb170, 0, none⟩ = some (.int .i64 a0_0) ∧ w'.cell? ⟨gb170, 1, none⟩ = some (.bool a0_1) ∧ w'.cell? ⟨gb170, 2, none⟩ = some (.bool a0_2) ∧ w'.cell? ⟨gb170, 3, none⟩ = some (.int .i64 a0_3) ∧ w'.cell? ⟨gb170, 4, none⟩ = some (.int .i64 a0_4)) (ds := []) #[false, false, false, false, false, false, false, false, false, false] (by kernel_rfl) rfl rfl ⟨(blk_cell BK170.out 0).trans rfl, (blk_cell BK170.out 1).trans rfl, (blk_cell BK170.out 2).trans rfl, (blk_cell BK170.out 3).trans rfl, (blk_cell BK170.out 4).trans rfl⟩ (fun hHeld => ?_); refine with_tabW spec_CodPaned.tab9 spec_CodPaned.bits9 (fun HT_ HW_ => ?_)
                        generalize wc.drew = w26 at BK170 HB hHeld ⊢
                        refine pure_ (i := 0) (N := some 44) (v := ?_) (a' := ?_) #[true, false, false, false, false, false, false, false, false, false] rfl rfl (any_of HT_.out (by kernel_rfl)) (fun _ _ _ h => h) (Or.inl ⟨by rfl, ?_⟩) ?_ ?_
                        rotate_left
                        · intro w'
                          go_simp
                          with_reducible rfl
                        rotate_left
                        · simp only [Act.put, List.setIfInBounds_toArray, List.set_cons_zero, List.set_cons_succ, i64_w, i32_w]
                          rfl
                        refine pure_ (i := 1) (N := some 45) (v := ?_) (a' := ?_) #[true, true, false, false, false, false, false, false, false, false] rfl rfl (any_of HT_.out (by kernel_rfl)) (fun _ _ _ h => h) (Or.inl ⟨by rfl, ?_⟩) ?_ ?_
                        rotate_left
                        · intro w'
                          go_simp
                          with_reducible rfl
                        rotate_left
                        · simp only [Act.put, List.setIfInBounds_toArray, List.set_cons_zero, List.set_cons_succ, i64_w, i32_w]
                          rfl
                        refine pure_ (i := 4) (N := some 48) (v := ?_) (a' := ?_) #[true, true, false, false, true, false, false, false, false, false] rfl rfl (any_of HT_.out (by kernel_rfl)) (fun _ _ _ h => h) (Or.inl ⟨by rfl, ?_⟩) ?_ ?_
                        rotate_left
                        · intro w'
                          go_simp
                          with_reducible rfl
                        rotate_left
                        · simp only [Act.put, List.setIfInBounds_toArray, List.set_cons_zero, List.set_cons_succ, i64_w, i32_w]
                          rfl
                        refine take_ (i := 5) (N := some 49) (v := ?_) (a' := ?_) #[true, true, false, false, true, true, false, false, false, false] rfl rfl (take_ofW HT_.out HW_.out (by kernel_rfl)) (fun _ _ _ h => h) (Or.inl ⟨by rfl, ?_⟩) hHeld ?_ ?_
                        rotate_left
                        · rintro w' ⟨s0, s1, s2, s3, s4⟩
                          go_simp
                          with_reducible rfl
                        rotate_left
                        · simp only [Act.put, List.setIfInBounds_toArray, List.set_cons_zero, List.set_cons_succ, i64_w, i32_w]
                          rfl
                        refine pure_ (i := 6) (N := some 50) (v := ?_) (a' := ?_) #[true, true, false, false, true, true, true, false, false, false] rfl rfl (any_of HT_.out (by kernel_rfl)) (fun _ _ _ h => h) (Or.inl ⟨by rfl, ?_⟩) ?_ ?_
                        rotate_left
                        · intro w'
                          go_simp
                          with_reducible rfl
                        rotate_left
                        · simp only [Act.put, List.setIfInBounds_toArray, List.set_cons_zero, List.set_cons_succ, i64_w, i32_w]
                          rfl
                        refine join_ (σ := Value) 2 #[true, true, true, true, true, true, true, true, false, false] (fun s_ => [(46, s_), (47, .string (strOfNums y174)), (51, .string t177)]) (fun s_ w' => (w'.cell? ⟨gb170, 0, none⟩ = some (.int .i64 a0_0) ∧ w'.cell? ⟨gb170, 1, none⟩ = some (.bool a0_1) ∧ w'.cell? ⟨gb170, 2, none⟩ = some (.bool a0_2) ∧ w'.cell? ⟨gb170, 3, none⟩ = some (.int .i64 a0_3) ∧ w'.cell? ⟨gb170, 4, none⟩ = some (.int .i64 a0_4)) ∧ (Kd.R (Kd.int .u8) 5 w' w.heap.size (fun _ => True) s_ y174) ∧ (w'.heap[gb170]? = some (.cells #[.int .i64 a0_0, .bool a0_1, .bool a0_2, .int .i64 a0_3, .int .i64 a0_4] 50 (0, 0))) ∧ (Below w.heap.size w w')) ?_ ?_
                        rotate_left
                        · intro hCont
                          refine two_ (i := 2) (j := 7) (Ni := some 46) (Nj := some 51) #[true, true, true, false, true, true, true, false, false, false] #[true, true, false, false, true, true, true, true, false, false] rfl rfl rfl rfl (two_of HT_.out (by kernel_rfl)) (by decide) (by decide) (fun K hK => ?_) (fun K hK => ?_)
                          · skip
                            refine Kd.R_lit_step (Kd.int .u8) _ 5 ?hg (N := 46) ?hd (xs := ([Go.bits .or .u8 x3_5 16] : List Int)) (inner := [.int .u8 (Go.bits .or .u8 x3_5 16)]) (ok := fun _ => True) (okp := fun _ => True) ?hr ?hp (fun _ hk => hk) trivial (Below.refl _ _) (Nat.le_refl _) (by simp) ?_; (case hd => rfl); (case hg => rfl); (case hr => first | (go_simp; done) | (go_simp; rfl)); (case hp => exact (Reps.one (show Kd.M (Kd.int .u8) _ _ _ (Go.bits .or .u8 x3_5 16) [.int .u8 (Go.bits .or .u8 x3_5 16)] from rfl) (Reps.none _ _)))
                            intro v175 w27 ho28 hb hg_ hnew_
                            clear hg_ hnew_
                            (first | rw [← Ny174.out] at ho28 | (simp only [Int.reduceToNat] at ho28; rw [← Ny174.out] at ho28))
                            have n0_ := Aside0.mk (Kd.R_lower ho28 (below_size (by repeat (first | (with_reducible first | exact HB.out | apply below_alloc | apply pw_below_drewN | apply below_drew1 | refine below_set ?_ GE170.out) | exact HB.out))))
                            have n1_ := Aside0.mk (blk_below (g := gb170) (o := .cells #[.int .i64 a0_0, .bool a0_1, .bool a0_2, .int .i64 a0_3, .int .i64 a0_4] 50 (0, 0)) (by (with_reducible repeat (first | refine blk_drewN ?_ _ | refine blk_drew ?_ | refine blk_alloc ?_ _)); exact BK170.out) hb)
                            have n2_ := Aside0.mk (below_step (by repeat (first | (with_reducible first | exact HB.out | apply below_alloc | apply pw_below_drewN | apply below_drew1 | refine below_set ?_ GE170.out) | exact HB.out)) hb)
                            clear BK170
                            clear HB
                            have HO176 := n0_
                            have BK170 := n1_
                            have HB := n2_
                            clear n0_ n1_ n2_
                            clear hb ho28
                            refine hK.out _ _ ⟨(blk_cell BK170.out 0).trans rfl, (blk_cell BK170.out 1).trans rfl, (blk_cell BK170.out 2).trans rfl, (blk_cell BK170.out 3).trans rfl, (blk_cell BK170.out 4).trans rfl⟩ (fun hHeld => ?_)
                            clear hK K
                            refine norm_ (a' := ?_) ?_ ?_
                            rotate_left
                            · show Act.put _ (some 46) _ = _
                              simp only [Act.put, List.setIfInBounds_toArray, List.set_cons_zero, List.set_cons_succ, i64_w, i32_w]
                              rfl
                            refine two_ (i := 3) (j := 7) (Ni := some 47) (Nj := some 51) #[true, true, true, true, true, true, true, false, false, false] #[true, true, true, false, true, true, true, true, false, false] rfl rfl rfl rfl (two_of HT_.out (by kernel_rfl)) (by decide) (by decide) (fun K hK => ?_) (fun K hK => ?_)
                            · skip
                              have hcv29 := own_string (P := Tryz.prog) Tryz.underlying77 Tryz.underlying5 Tryz.underlying9 (Kd.own_of_R HO176.out)
                              refine value_ (w1 := ?_) (v := ?_) (by rfl) rfl ?_ ?_
                              rotate_left 2
                              · go_simp
                                constructor
                                · rfl
                                · rfl
                              clear hcv29
                              refine hK.out _ _ ⟨(blk_cell BK170.out 0).trans rfl, (blk_cell BK170.out 1).trans rfl, (blk_cell BK170.out 2).trans rfl, (blk_cell BK170.out 3).trans rfl, (blk_cell BK170.out 4).trans rfl⟩ (fun hHeld => ?_)
                              clear hK K
                              refine norm_ (a' := ?_) ?_ ?_
                              rotate_left
                              · show Act.put _ (some 47) _ = _
                                simp only [Act.put, List.setIfInBounds_toArray, List.set_cons_zero, List.set_cons_succ, i64_w, i32_w]
                                rfl
                              refine one_ (i := 7) (N := some 51) #[true, true, true, true, true, true, true, true, false, false] rfl rfl (one_of HT_.out (by kernel_rfl)) (by decide) (fun K hK => ?_)
                              refine goes_ Tryz.func47 (by kernel_rfl) rfl #[.int .u64 (IntKind.u64.wrap (a0_3))] (by rfl) rfl rfl (by (try simp only [List.map_toArray, List.map_cons, List.map_nil]); first | done | rfl | (simp only [List.length_drop, List.length_take]; rfl)) ?_
                              with_reducible refine (spec_CodVarint.calls kj18 (IntKind.u64.wrap (a0_3)) t177 _ A24.out).mono ?_
                              rintro e w30 ⟨rfl, hb⟩
                              refine ⟨_, rfl, ?_⟩
                              have n0_ := Aside0.mk (Kd.R_below (by (with_reducible repeat (first | apply Kd.R_alloc | apply Kd.R_drewN | apply Kd.R_drew)); exact HO176.out) hb)
                              have n1_ := Aside0.mk (blk_below (g := gb170) (o := .cells #[.int .i64 a0_0, .bool a0_1, .bool a0_2, .int .i64 a0_3, .int .i64 a0_4] 50 (0, 0)) (by (with_reducible repeat (first | refine blk_drewN ?_ _ | refine blk_drew ?_ | refine blk_alloc ?_ _)); exact BK170.out) hb)
                              have n2_ := Aside0.mk (below_step (by repeat (first | (with_reducible first | exact HB.out | apply below_alloc | apply pw_below_drewN | apply below_drew1 | refine below_set ?_ GE170.out) | exact HB.out)) hb)
                              clear HO176
                              clear BK170
                              clear HB
                              have HO176 := n0_
                              have BK170 := n1_
                              have HB := n2_
                              clear n0_ n1_ n2_
                              (try clear hb)
                              (try clear hb2)
                              (try clear hk)
                              (try clear hi)
                              refine hK.out _ _ ⟨(blk_cell BK170.out 0).trans rfl, (blk_cell BK170.out 1).trans rfl, (blk_cell BK170.out 2).trans rfl, (blk_cell BK170.out 3).trans rfl, (blk_cell BK170.out 4).trans rfl⟩ (fun hHeld => ?_)
                              clear hK K
                              refine norm_ (a' := ?_) ?_ ?_
                              rotate_left
                              · show Act.put _ (some 51) _ = _
                                simp only [Act.put, List.setIfInBounds_toArray, List.set_cons_zero, List.set_cons_succ, i64_w, i32_w]
                                rfl
                              exact norm_ (by simp only [putAll, Act.put, List.setIfInBounds_toArray, List.set_cons_zero, List.set_cons_succ]) (hCont (v175) _ ⟨hHeld, (by (with_reducible repeat (first | apply Kd.R_alloc | apply Kd.R_drewN | apply Kd.R_drew)); exact HO176.out), (by (with_reducible repeat (first | refine blk_drewN ?_ _ | refine blk_drew ?_ | refine blk_alloc ?_ _)); exact BK170.out), (by repeat (first | (with_reducible first | exact HB.out | apply below_alloc | apply pw_below_drewN | apply below_drew1 | refine below_set ?_ GE170.out) | exact HB.out))⟩)
                            · skip
                              refine goes_ Tryz.func47 (by kernel_rfl) rfl #[.int .u64 (IntKind.u64.wrap (a0_3))] (by rfl) rfl rfl (by (try simp only [List.map_toArray, List.map_cons, List.map_nil]); first | done | rfl | (simp only [List.length_drop, List.length_take]; rfl)) ?_
                              with_reducible refine (spec_CodVarint.calls kj18 (IntKind.u64.wrap (a0_3)) t177 _ A24.out).mono ?_
                              rintro e w29 ⟨rfl, hb⟩
                              refine ⟨_, rfl, ?_⟩
                              have n0_ := Aside0.mk (Kd.R_below (by (with_reducible repeat (first | apply Kd.R_alloc | apply Kd.R_drewN | apply Kd.R_drew)); exact HO176.out) hb)
                              have n1_ := Aside0.mk (blk_below (g := gb170) (o := .cells #[.int .i64 a0_0, .bool a0_1, .bool a0_2, .int .i64 a0_3, .int .i64 a0_4] 50 (0, 0)) (by (with_reducible repeat (first | refine blk_drewN ?_ _ | refine blk_drew ?_ | refine blk_alloc ?_ _)); exact BK170.out) hb)
                              have n2_ := Aside0.mk (below_step (by repeat (first | (with_reducible first | exact HB.out | apply below_alloc | apply pw_below_drewN | apply below_drew1 | refine below_set ?_ GE170.out) | exact HB.out)) hb)
                              clear HO176
                              clear BK170
                              clear HB
                              have HO176 := n0_
                              have BK170 := n1_
                              have HB := n2_
                              clear n0_ n1_ n2_
                              (try clear hb)
                              (try clear hb2)
                              (try clear hk)
                              (try clear hi)
                              refine hK.out _ _ ⟨(blk_cell BK170.out 0).trans rfl, (blk_cell BK170.out 1).trans rfl, (blk_cell BK170.out 2).trans rfl, (blk_cell BK170.out 3).trans rfl, (blk_cell BK170.out 4).trans rfl⟩ (fun hHeld => ?_)
                              clear hK K
                              refine norm_ (a' := ?_) ?_ ?_
                              rotate_left
                              · show Act.put _ (some 51) _ = _
                                simp only [Act.put, List.setIfInBounds_toArray, List.set_cons_zero, List.set_cons_succ, i64_w, i32_w]
                                rfl
                              refine one_ (i := 3) (N := some 47) #[true, true, true, true, true, true, true, true, false, false] rfl rfl (one_of HT_.out (by kernel_rfl)) (by decide) (fun K hK => ?_)
                              have hcv30 := own_string (P := Tryz.prog) Tryz.underlying77 Tryz.underlying5 Tryz.underlying9 (Kd.own_of_R HO176.out)
                              refine value_ (w1 := ?_) (v := ?_) (by rfl) rfl ?_ ?_
                              rotate_left 2
                              · go_simp
                                constructor
                                · rfl
                                · rfl
                              clear hcv30
                              refine hK.out _ _ ⟨(blk_cell BK170.out 0).trans rfl, (blk_cell BK170.out 1).trans rfl, (blk_cell BK170.out 2).trans rfl, (blk_cell BK170.out 3).trans rfl, (blk_cell BK170.out 4).trans rfl⟩ (fun hHeld => ?_)
                              clear hK K
                              refine norm_ (a' := ?_) ?_ ?_
                              rotate_left
                              · show Act.put _ (some 47) _ = _
                                simp only [Act.put, List.setIfInBounds_toArray, List.set_cons_zero, List.set_cons_succ, i64_w, i32_w]
                                rfl
                              exact norm_ (by simp only [putAll, Act.put, List.setIfInBounds_toArray, List.set_cons_zero, List.set_cons_succ]) (hCont (v175) _ ⟨hHeld, (by (with_reducible repeat (first | apply Kd.R_alloc | apply Kd.R_drewN | apply Kd.R_drew)); exact HO176.out), (by (with_reducible repeat (first | refine blk_drewN ?_ _ | refine blk_drew ?_ | refine blk_alloc ?_ _)); exact BK170.out), (by repeat (first | (with_reducible first | exact HB.out | apply below_alloc | apply pw_below_drewN | apply below_drew1 | refine below_set ?_ GE170.out) | exact HB.out))⟩)
                          · skip
                            refine goes_ Tryz.func47 (by kernel_rfl) rfl #[.int .u64 (IntKind.u64.wrap (a0_3))] (by rfl) rfl rfl (by (try simp only [List.map_toArray, List.map_cons, List.map_nil]); first | done | rfl | (simp only [List.length_drop, List.length_take]; rfl)) ?_
                            with_reducible refine (spec_CodVarint.calls kj18 (IntKind.u64.wrap (a0_3)) t177 _ A24.out).mono ?_
                            rintro e w27 ⟨rfl, hb⟩
                            refine ⟨_, rfl, ?_⟩
                            have n0_ := Aside0.mk (blk_below (g := gb170) (o := .cells #[.int .i64 a0_0, .bool a0_1, .bool a0_2, .int .i64 a0_3, .int .i64 a0_4] 50 (0, 0)) (by (with_reducible repeat (first | refine blk_drewN ?_ _ | refine blk_drew ?_ | refine blk_alloc ?_ _)); exact BK170.out) hb)
                            have n1_ := Aside0.mk (below_step (by repeat (first | (with_reducible first | exact HB.out | apply below_alloc | apply pw_below_drewN | apply below_drew1 | refine below_set ?_ GE170.out) | exact HB.out)) hb)
                            clear BK170
                            clear HB
                            have BK170 := n0_
                            have HB := n1_
                            clear n0_ n1_
                            (try clear hb)
                            (try clear hb2)
                            (try clear hk)
                            (try clear hi)
                            refine hK.out _ _ ⟨(blk_cell BK170.out 0).trans rfl, (blk_cell BK170.out 1).trans rfl, (blk_cell BK170.out 2).trans rfl, (blk_cell BK170.out 3).trans rfl, (blk_cell BK170.out 4).trans rfl⟩ (fun hHeld => ?_)
                            clear hK K
                            refine norm_ (a' := ?_) ?_ ?_
                            rotate_left
                            · show Act.put _ (some 51) _ = _
                              simp only [Act.put, List.setIfInBounds_toArray, List.set_cons_zero, List.set_cons_succ, i64_w, i32_w]
                              rfl
                            refine one_ (i := 2) (N := some 46) #[true, true, true, false, true, true, true, true, false, false] rfl rfl (one_of HT_.out (by kernel_rfl)) (by decide) (fun K hK => ?_)
                            refine Kd.R_lit_step (Kd.int .u8) _ 5 ?hg (N := 46) ?hd (xs := ([Go.bits .or .u8 x3_5 16] : List Int)) (inner := [.int .u8 (Go.bits .or .u8 x3_5 16)]) (ok := fun _ => True) (okp := fun _ => True) ?hr ?hp (fun _ hk => hk) trivial (Below.refl _ _) (Nat.le_refl _) (by simp) ?_; (case hd => rfl); (case hg => rfl); (case hr => first | (go_simp; done) | (go_simp; rfl)); (case hp => exact (Reps.one (show Kd.M (Kd.int .u8) _ _ _ (Go.bits .or .u8 x3_5 16) [.int .u8 (Go.bits .or .u8 x3_5 16)] from rfl) (Reps.none _ _)))
                            intro v175 w28 ho29 hb hg_ hnew_
                            clear hg_ hnew_
                            (first | rw [← Ny174.out] at ho29 | (simp only [Int.reduceToNat] at ho29; rw [← Ny174.out] at ho29))
                            have n0_ := Aside0.mk (Kd.R_lower ho29 (below_size (by repeat (first | (with_reducible first | exact HB.out | apply below_alloc | apply pw_below_drewN | apply below_drew1 | refine below_set ?_ GE170.out) | exact HB.out))))
                            have n1_ := Aside0.mk (blk_below (g := gb170) (o := .cells #[.int .i64 a0_0, .bool a0_1, .bool a0_2, .int .i64 a0_3, .int .i64 a0_4] 50 (0, 0)) (by (with_reducible repeat (first | refine blk_drewN ?_ _ | refine blk_drew ?_ | refine blk_alloc ?_ _)); exact BK170.out) hb)
                            have n2_ := Aside0.mk (below_step (by repeat (first | (with_reducible first | exact HB.out | apply below_alloc | apply pw_below_drewN | apply below_drew1 | refine below_set ?_ GE170.out) | exact HB.out)) hb)
                            clear BK170
                            clear HB
                            have HO176 := n0_
                            have BK170 := n1_
                            have HB := n2_
                            clear n0_ n1_ n2_
                            clear hb ho29
                            refine hK.out _ _ ⟨(blk_cell BK170.out 0).trans rfl, (blk_cell BK170.out 1).trans rfl, (blk_cell BK170.out 2).trans rfl, (blk_cell BK170.out 3).trans rfl, (blk_cell BK170.out 4).trans rfl⟩ (fun hHeld => ?_)
                            clear hK K
                            refine norm_ (a' := ?_) ?_ ?_
                            rotate_left
                            · show Act.put _ (some 46) _ = _
                              simp only [Act.put, List.setIfInBounds_toArray, List.set_cons_zero, List.set_cons_succ, i64_w, i32_w]
                              rfl
                            refine one_ (i := 3) (N := some 47) #[true, true, true, true, true, true, true, true, false, false] rfl rfl (one_of HT_.out (by kernel_rfl)) (by decide) (fun K hK => ?_)
                            have hcv30 := own_string (P := Tryz.prog) Tryz.underlying77 Tryz.underlying5 Tryz.underlying9 (Kd.own_of_R HO176.out)
                            refine value_ (w1 := ?_) (v := ?_) (by rfl) rfl ?_ ?_
                            rotate_left 2
                            · go_simp
                              constructor
                              · rfl
                              · rfl
                            clear hcv30
                            refine hK.out _ _ ⟨(blk_cell BK170.out 0).trans rfl, (blk_cell BK170.out 1).trans rfl, (blk_cell BK170.out 2).trans rfl, (blk_cell BK170.out 3).trans rfl, (blk_cell BK170.out 4).trans rfl⟩ (fun hHeld => ?_)
                            clear hK K
                            refine norm_ (a' := ?_) ?_ ?_
                            rotate_left
                            · show Act.put _ (some 47) _ = _
                              simp only [Act.put, List.setIfInBounds_toArray, List.set_cons_zero, List.set_cons_succ, i64_w, i32_w]
                              rfl
                            exact norm_ (by simp only [putAll, Act.put, List.setIfInBounds_toArray, List.set_cons_zero, List.set_cons_succ]) (hCont (v175) _ ⟨hHeld, (by (with_reducible repeat (first | apply Kd.R_alloc | apply Kd.R_drewN | apply Kd.R_drew)); exact HO176.out), (by (with_reducible repeat (first | refine blk_drewN ?_ _ | refine blk_drew ?_ | refine blk_alloc ?_ _)); exact BK170.out), (by repeat (first | (with_reducible first | exact HB.out | apply below_alloc | apply pw_below_drewN | apply below_drew1 | refine below_set ?_ GE170.out) | exact HB.out))⟩)
                        rintro v175 w31 ⟨hS_, h0_, h1_, h2_⟩
                        have n0_ : Aside0 (Kd.R (Kd.int .u8) 5 w31 w.heap.size (fun _ => True) v175 y174) := ⟨h0_⟩
                        have n1_ : Aside0 (w31.heap[gb170]? = some (.cells #[.int .i64 a0_0, .bool a0_1, .bool a0_2, .int .i64 a0_3, .int .i64 a0_4] 50 (0, 0))) := ⟨h1_⟩
                        have n2_ : Aside0 (Below w.heap.size w w31) := ⟨h2_⟩
                        clear BK170
                        clear HB
                        clear h0_ h1_ h2_
                        have HO176 := n0_
                        have BK170 := n1_
                        have HB := n2_
                        clear n0_ n1_ n2_
                        have hHeld : w31.cell? ⟨gb170, 0, none⟩ = some (.int .i64 a0_0) ∧ w31.cell? ⟨gb170, 1, none⟩ = some (.bool a0_1) ∧ w31.cell? ⟨gb170, 2, none⟩ = some (.bool a0_2) ∧ w31.cell? ⟨gb170, 3, none⟩ = some (.int .i64 a0_3) ∧ w31.cell? ⟨gb170, 4, none⟩ = some (.int .i64 a0_4) := hS_
                        refine norm_ (a' := ?_) ?_ ?_
                        rotate_left
                        · simp only [putAll, Act.put, List.setIfInBounds_toArray, List.set_cons_zero, List.set_cons_succ]
                          rfl
                        refine pure_ (i := 8) (N := some 52) (v := ?_) (a' := ?_) #[true, true, true, true, true, true, true, true, true, false] rfl rfl (any_of HT_.out (by kernel_rfl)) (fun _ _ _ h => h) (Or.inl ⟨by rfl, ?_⟩) ?_ ?_
                        rotate_left
                        · intro w'
                          go_simp
                          with_reducible rfl
                        rotate_left
                        · simp only [Act.put, List.setIfInBounds_toArray, List.set_cons_zero, List.set_cons_succ, i64_w, i32_w]
                          rfl
                        refine pure_ (i := 9) (N := some 2) (v := ?_) (a' := ?_) #[true, true, true, true, true, true, true, true, true, true] rfl rfl (any_of HT_.out (by kernel_rfl)) (fun _ _ _ h => h) (Or.inl ⟨by rfl, ?_⟩) ?_ ?_
                        rotate_left
                        · intro w'
                          go_simp
                          with_reducible rfl
                        rotate_left
                        · simp only [Act.put, List.setIfInBounds_toArray, List.set_cons_zero, List.set_cons_succ, i64_w, i32_w]
                          rfl
                        refine done_ (done_of HT_.out (by kernel_rfl)) ?_
                        try go_wp2
                        go_ret
                        exact ⟨by first | rfl | (simp [errW_none, errW_some] <;> rfl) | (simp [*, errW_none, errW_some] <;> rfl), by repeat (first | (with_reducible first | exact HB.out | apply below_alloc | apply pw_below_drewN | apply below_drew1 | refine below_set ?_ GE170.out) | exact HB.out)⟩
                      · rw [if_neg c25] at H
                        exact absurd H (by simp)
                    · replace c23 := Bool.eq_false_iff.mpr c23
                      subst c23
                      have H1 : ((some (([Go.bits .or .u8 x3_5 32] : List Int) : List Int)).bind fun y178 => ((spec_CodVarint.f kj18 (IntKind.u64.wrap (a0_3))).bind fun t181 => (if (strOfNums y178).size + t181.size ≤ 9223372036854775807 then ((spec_CodVarint.f kj18 (IntKind.u64.wrap (a0_4))).bind fun t182 => (if ((strOfNums y178) ++ t181).size + t182.size ≤ 9223372036854775807 then (some (((strOfNums y178) ++ t181) ++ t182)) else (none))) else (none)))) = some r := by rw [if_neg (show ¬ (false = true) by decide)] at H; exact H
                      clear H
                      have H := H1
                      clear H1
                      obtain ⟨y178, hy178⟩ : ∃ y_ : List Int, y_ = (([Go.bits .or .u8 x3_5 32] : List Int)) := ⟨_, rfl⟩
                      replace H : ((spec_CodVarint.f kj18 (IntKind.u64.wrap (a0_3))).bind fun t181 => (if (strOfNums y178).size + t181.size ≤ 9223372036854775807 then ((spec_CodVarint.f kj18 (IntKind.u64.wrap (a0_4))).bind fun t182 => (if ((strOfNums y178) ++ t181).size + t182.size ≤ 9223372036854775807 then (some (((strOfNums y178) ++ t181) ++ t182)) else (none))) else (none))) = some r := by first | (rw [hy178]; with_reducible exact H) | (have H2_ := (Option.bind_some _ _).symm.trans H; rw [hy178]; with_reducible exact H2_) | (have H2_ := (Option.bind_some _ _).symm.trans H; with_reducible exact H2_) | with_reducible exact H | (rw [hy178]; exact H) | exact H
                      have Ny178 := Aside0.mk hy178
                      clear hy178
                      replace H := Option.bind_eq_some_iff.mp H
                      obtain ⟨t181, A320, H⟩ := H
                      replace H : (if (strOfNums y178).size + t181.size ≤ 9223372036854775807 then ((spec_CodVarint.f kj18 (IntKind.u64.wrap (a0_4))).bind fun t182 => (if ((strOfNums y178) ++ t181).size + t182.size ≤ 9223372036854775807 then (some (((strOfNums y178) ++ t181) ++ t182)) else (none))) else (none)) = some r := H
                      have A32 := Aside0.mk A320
                      clear A320
                      by_cases c33 : (strOfNums y178).size + t181.size ≤ 9223372036854775807
                      · rw [if_pos c33] at H
                        have c33b0 := eq_true c33
                        have c33b1 : decide ((strOfNums y178).size + t181.size ≤ 9223372036854775807) = true := decide_eq_true c33
                        try have c33b2 : (9223372036854775807 < (strOfNums y178).size + t181.size) = False := eq_false (Nat.not_lt.2 c33)
                        try (have c33b3 := c33b2; simp only [ByteArray.size_append] at c33b3)
                        replace H := Option.bind_eq_some_iff.mp H
                        obtain ⟨t182, A340, H⟩ := H
                        replace H : (if ((strOfNums y178) ++ t181).size + t182.size ≤ 9223372036854775807 then (some (((strOfNums y178) ++ t181) ++ t182)) else (none)) = some r := H
                        have A34 := Aside0.mk A340
                        clear A340
                        by_cases c35 : ((strOfNums y178) ++ t181).size + t182.size ≤ 9223372036854775807
                        · rw [if_pos c35] at H
                          have c35b0 := eq_true c35
                          have c35b1 : decide (((strOfNums y178) ++ t181).size + t182.size ≤ 9223372036854775807) = true := decide_eq_true c35
                          try have c35b2 : (9223372036854775807 < ((strOfNums y178) ++ t181).size + t182.size) = False := eq_false (Nat.not_lt.2 c35)
                          try (have c35b3 := c35b2; simp only [ByteArray.size_append] at c35b3)
                          obtain rfl := Option.some.inj H
                          try go_wp2
                          have n0_ := Aside0.mk (blk_drew BK170.out)
                          have n1_ := Aside0.mk (below_drew1 HB.out)
                          clear BK170
                          clear HB
                          have BK170 := n0_
                          have HB := n1_
                          clear n0_ n1_
                          refine start_ (n := 15) (S := fun w' => w'.cell? ⟨gb170, 0, none⟩ = some (.int .i64 a0_0) ∧ w'.cell? ⟨gb170, 1, none⟩ = some (.bool a0_1) ∧ w'.cell? ⟨gb170, 2, none⟩ = some (.bool a0_2) ∧ w'.cell? ⟨gb170, 3, none⟩ = some (.int .i64 a0_3) ∧ w'.cell? ⟨gb170, 4, none⟩ = some (.int .i64 a0_4)) (ds := []) #[false, false, false, false, false, false, false, false, false, false, false, false, false, false, false] (by kernel_rfl) rfl rfl ⟨(blk_cell BK170.out 0).trans rfl, (blk_cell BK170.out 1).trans rfl, (blk_cell BK170.out 2).trans rfl, (blk_cell BK170.out 3).trans rfl, (blk_cell BK170.out 4).trans rfl⟩ (fun hHeld => ?_); refine with_tabW spec_CodPaned.tab10 spec_CodPaned.bits10 (fun HT_ HW_ => ?_)
                          generalize wc.drew = w36 at BK170 HB hHeld ⊢
                          refine pure_ (i := 0) (N := some 53) (v := ?_) (a' := ?_) #[true, false, false, false, false, false, false, false, false, false, false, false, false, false, false] rfl rfl (any_of HT_.out (by kernel_rfl)) (fun _ _ _ h => h) (Or.inl ⟨by rfl, ?_⟩) ?_ ?_
                          rotate_left
                          · intro w'
                            go_simp
                            with_reducible rfl
                          rotate_left
                          · simp only [Act.put, List.setIfInBounds_toArray, List.set_cons_zero, List.set_cons_succ, i64_w, i32_w]
                            rfl
                          refine pure_ (i := 1) (N := some 54) (v := ?_) (a' := ?_) #[true, true, false, false, false, false, false, false, false, false, false, false, false, false, false] rfl rfl (any_of HT_.out (by kernel_rfl)) (fun _ _ _ h => h) (Or.inl ⟨by rfl, ?_⟩) ?_ ?_
                          rotate_left
                          · intro w'
                            go_simp
                            with_reducible rfl
                          rotate_left
                          · simp only [Act.put, List.setIfInBounds_toArray, List.set_cons_zero, List.set_cons_succ, i64_w, i32_w]
                            rfl
                          refine pure_ (i := 4) (N := some 57) (v := ?_) (a' := ?_) #[true, true, false, false, true, false, false, false, false, false, false, false, false, false, false] rfl rfl (any_of HT_.out (by kernel_rfl)) (fun _ _ _ h => h) (Or.inl ⟨by rfl, ?_⟩) ?_ ?_
                          rotate_left
                          · intro w'
                            go_simp
                            with_reducible rfl
                          rotate_left
                          · simp only [Act.put, List.setIfInBounds_toArray, List.set_cons_zero, List.set_cons_succ, i64_w, i32_w]
                            rfl
                          refine pure_ (i := 9) (N := some 62) (v := ?_) (a' := ?_) #[true, true, false, false, true, false, false, false, false, true, false, false, false, false, false] rfl rfl (any_of HT_.out (by kernel_rfl)) (fun _ _ _ h => h) (Or.inl ⟨by rfl, ?_⟩) ?_ ?_
                          rotate_left
                          · intro w'
                            go_simp
                            with_reducible rfl
                          rotate_left
                          · simp only [Act.put, List.setIfInBounds_toArray, List.set_cons_zero, List.set_cons_succ, i64_w, i32_w]
                            rfl
                          refine take_ (i := 5) (N := some 58) (v := ?_) (a' := ?_) #[true, true, false, false, true, true, false, false, false, true, false, false, false, false, false] rfl rfl (take_ofW HT_.out HW_.out (by kernel_rfl)) (fun _ _ _ h => h) (Or.inl ⟨by rfl, ?_⟩) hHeld ?_ ?_
                          rotate_left
                          · rintro w' ⟨s0, s1, s2, s3, s4⟩
                            go_simp
                            with_reducible rfl
                          rotate_left
                          · simp only [Act.put, List.setIfInBounds_toArray, List.set_cons_zero, List.set_cons_succ, i64_w, i32_w]
                            rfl
                          refine pure_ (i := 6) (N := some 59) (v := ?_) (a' := ?_) #[true, true, false, false, true, true, true, false, false, true, false, false, false, false, false] rfl rfl (any_of HT_.out (by kernel_rfl)) (fun _ _ _ h => h) (Or.inl ⟨by rfl, ?_⟩) ?_ ?_
                          rotate_left
                          · intro w'
                            go_simp
                            with_reducible rfl
                          rotate_left
                          · simp only [Act.put, List.setIfInBounds_toArray, List.set_cons_zero, List.set_cons_succ, i64_w, i32_w]
                            rfl
                          refine take_ (i := 10) (N := some 63) (v := ?_) (a' := ?_) #[true, true, false, false, true, true, true, false, false, true, true, false, false, false, false] rfl rfl (take_ofW HT_.out HW_.out (by kernel_rfl)) (fun _ _ _ h => h) (Or.inl ⟨by rfl, ?_⟩) hHeld ?_ ?_
                          rotate_left
                          · rintro w' ⟨s0, s1, s2, s3, s4⟩
                            go_simp
                            with_reducible rfl
                          rotate_left
                          · simp only [Act.put, List.setIfInBounds_toArray, List.set_cons_zero, List.set_cons_succ, i64_w, i32_w]
                            rfl
                          refine pure_ (i := 11) (N := some 64) (v := ?_) (a' := ?_) #[true, true, false, false, true, true, true, false, false, true, true, true, false, false, false] rfl rfl (any_of HT_.out (by kernel_rfl)) (fun _ _ _ h => h) (Or.inl ⟨by rfl, ?_⟩) ?_ ?_
                          rotate_left
                          · intro w'
                            go_simp
                            with_reducible rfl
                          rotate_left
                          · simp only [Act.put, List.setIfInBounds_toArray, List.set_cons_zero, List.set_cons_succ, i64_w, i32_w]
                            rfl
                          refine join_ (σ := Value) 2 #[true, true, true, true, true, true, true, true, true, true, true, true, true, false, false] (fun s_ => [(55, s_), (56, .string (strOfNums y178)), (60, .string t181), (65, .string t182), (61, .string ((strOfNums y178) ++ t181))]) (fun s_ w' => (w'.cell? ⟨gb170, 0, none⟩ = some (.int .i64 a0_0) ∧ w'.cell? ⟨gb170, 1, none⟩ = some (.bool a0_1) ∧ w'.cell? ⟨gb170, 2, none⟩ = some (.bool a0_2) ∧ w'.cell? ⟨gb170, 3, none⟩ = some (.int .i64 a0_3) ∧ w'.cell? ⟨gb170, 4, none⟩ = some (.int .i64 a0_4)) ∧ (Kd.R (Kd.int .u8) 5 w' w.heap.size (fun _ => True) s_ y178) ∧ (w'.heap[gb170]? = some (.cells #[.int .i64 a0_0, .bool a0_1, .bool a0_2, .int .i64 a0_3, .int .i64 a0_4] 50 (0, 0))) ∧ (Below w.heap.size w w')) ?_ ?_
                          rotate_left
                          · intro hJ2_3_7_12
                            refine join_ (σ := Value) 3 #[true, true, true, true, true, true, true, true, true, true, true, true, false, false, false] (fun s_ => [(55, s_), (56, .string (strOfNums y178)), (60, .string t181), (61, .string ((strOfNums y178) ++ t181))]) (fun s_ w' => (w'.cell? ⟨gb170, 0, none⟩ = some (.int .i64 a0_0) ∧ w'.cell? ⟨gb170, 1, none⟩ = some (.bool a0_1) ∧ w'.cell? ⟨gb170, 2, none⟩ = some (.bool a0_2) ∧ w'.cell? ⟨gb170, 3, none⟩ = some (.int .i64 a0_3) ∧ w'.cell? ⟨gb170, 4, none⟩ = some (.int .i64 a0_4)) ∧ (Kd.R (Kd.int .u8) 5 w' w.heap.size (fun _ => True) s_ y178) ∧ (w'.heap[gb170]? = some (.cells #[.int .i64 a0_0, .bool a0_1, .bool a0_2, .int .i64 a0_3, .int .i64 a0_4] 50 (0, 0))) ∧ (Below w.heap.size w w')) ?_ ?_
                            rotate_left
                            · intro hJ2_3_7
                              refine join_ (σ := Value) 4 #[true, true, true, false, true, true, true, true, false, true, true, true, true, false, false] (fun s_ => [(55, s_), (60, .string t181), (65, .string t182)]) (fun s_ w' => (w'.cell? ⟨gb170, 0, none⟩ = some (.int .i64 a0_0) ∧ w'.cell? ⟨gb170, 1, none⟩ = some (.bool a0_1) ∧ w'.cell? ⟨gb170, 2, none⟩ = some (.bool a0_2) ∧ w'.cell? ⟨gb170, 3, none⟩ = some (.int .i64 a0_3) ∧ w'.cell? ⟨gb170, 4, none⟩ = some (.int .i64 a0_4)) ∧ (Kd.R (Kd.int .u8) 5 w' w.heap.size (fun _ => True) s_ y178) ∧ (w'.heap[gb170]? = some (.cells #[.int .i64 a0_0, .bool a0_1, .bool a0_2, .int .i64 a0_3, .int .i64 a0_4] 50 (0, 0))) ∧ (Below w.heap.size w w')) ?_ ?_
                              rotate_left
                              · intro hJ2_7_12
                                refine join_ (σ := Value) 5 #[true, true, true, true, true, true, true, false, false, true, true, true, false, false, false] (fun s_ => [(55, s_), (56, .string (strOfNums y178))]) (fun s_ w' => (w'.cell? ⟨gb170, 0, none⟩ = some (.int .i64 a0_0) ∧ w'.cell? ⟨gb170, 1, none⟩ = some (.bool a0_1) ∧ w'.cell? ⟨gb170, 2, none⟩ = some (.bool a0_2) ∧ w'.cell? ⟨gb170, 3, none⟩ = some (.int .i64 a0_3) ∧ w'.cell? ⟨gb170, 4, none⟩ = some (.int .i64 a0_4)) ∧ (Kd.R (Kd.int .u8) 5 w' w.heap.size (fun _ => True) s_ y178) ∧ (w'.heap[gb170]? = some (.cells #[.int .i64 a0_0, .bool a0_1, .bool a0_2, .int .i64 a0_3, .int .i64 a0_4] 50 (0, 0))) ∧ (Below w.heap.size w w')) ?_ ?_
                                rotate_left
                                · intro hJ2_3
                                  refine join_ (σ := Value) 5 #[true, true, true, false, true, true, true, true, false, true, true, true, false, false, false] (fun s_ => [(55, s_), (60, .string t181)]) (fun s_ w' => (w'.cell? ⟨gb170, 0, none⟩ = some (.int .i64 a0_0) ∧ w'.cell? ⟨gb170, 1, none⟩ = some (.bool a0_1) ∧ w'.cell? ⟨gb170, 2, none⟩ = some (.bool a0_2) ∧ w'.cell? ⟨gb170, 3, none⟩ = some (.int .i64 a0_3) ∧ w'.cell? ⟨gb170, 4, none⟩ = some (.int .i64 a0_4)) ∧ (Kd.R (Kd.int .u8) 5 w' w.heap.size (fun _ => True) s_ y178) ∧ (w'.heap[gb170]? = some (.cells #[.int .i64 a0_0, .bool a0_1, .bool a0_2, .int .i64 a0_3, .int .i64 a0_4] 50 (0, 0))) ∧ (Below w.heap.size w w')) ?_ ?_
                                  rotate_left
                                  · intro hJ2_7
                                    refine join_ (σ := Unit) 5 #[true, true, false, false, true, true, true, true, false, true, true, true, true, false, false] (fun s_ => [(60, .string t181), (65, .string t182)]) (fun s_ w' => (w'.cell? ⟨gb170, 0, none⟩ = some (.int .i64 a0_0) ∧ w'.cell? ⟨gb170, 1, none⟩ = some (.bool a0_1) ∧ w'.cell? ⟨gb170, 2, none⟩ = some (.bool a0_2) ∧ w'.cell? ⟨gb170, 3, none⟩ = some (.int .i64 a0_3) ∧ w'.cell? ⟨gb170, 4, none⟩ = some (.int .i64 a0_4)) ∧ (w'.heap[gb170]? = some (.cells #[.int .i64 a0_0, .bool a0_1, .bool a0_2, .int .i64 a0_3, .int .i64 a0_4] 50 (0, 0))) ∧ (Below w.heap.size w w')) ?_ ?_
                                    rotate_left
                                    · intro hJ7_12
                                      refine join_ (σ := Value) 6 #[true, true, true, false, true, true, true, false, false, true, true, true, false, false, false] (fun s_ => [(55, s_)]) (fun s_ w' => (w'.cell? ⟨gb170, 0, none⟩ = some (.int .i64 a0_0) ∧ w'.cell? ⟨gb170, 1, none⟩ = some (.bool a0_1) ∧ w'.cell? ⟨gb170, 2, none⟩ = some (.bool a0_2) ∧ w'.cell? ⟨gb170, 3, none⟩ = some (.int .i64 a0_3) ∧ w'.cell? ⟨gb170, 4, none⟩ = some (.int .i64 a0_4)) ∧ (Kd.R (Kd.int .u8) 5 w' w.heap.size (fun _ => True) s_ y178) ∧ (w'.heap[gb170]? = some (.cells #[.int .i64 a0_0, .bool a0_1, .bool a0_2, .int .i64 a0_3, .int .i64 a0_4] 50 (0, 0))) ∧ (Below w.heap.size w w')) ?_ ?_
                                      rotate_left
                                      · intro hJ2
                                        refine join_ (σ := Unit) 6 #[true, true, false, false, true, true, true, true, false, true, true, true, false, false, false] (fun s_ => [(60, .string t181)]) (fun s_ w' => (w'.cell? ⟨gb170, 0, none⟩ = some (.int .i64 a0_0) ∧ w'.cell? ⟨gb170, 1, none⟩ = some (.bool a0_1) ∧ w'.cell? ⟨gb170, 2, none⟩ = some (.bool a0_2) ∧ w'.cell? ⟨gb170, 3, none⟩ = some (.int .i64 a0_3) ∧ w'.cell? ⟨gb170, 4, none⟩ = some (.int .i64 a0_4)) ∧ (w'.heap[gb170]? = some (.cells #[.int .i64 a0_0, .bool a0_1, .bool a0_2, .int .i64 a0_3, .int .i64 a0_4] 50 (0, 0))) ∧ (Below w.heap.size w w')) ?_ ?_
                                        rotate_left
                                        · intro hJ7
                                          refine two_ (i := 2) (j := 7) (Ni := some 55) (Nj := some 60) #[true, true, true, false, true, true, true, false, false, true, true, true, false, false, false] #[true, true, false, false, true, true, true, true, false, true, true, true, false, false, false] rfl rfl rfl rfl (two_of HT_.out (by kernel_rfl)) (by decide) (by decide) (fun K hK => ?_) (fun K hK => ?_)
                                          · skip
                                            refine Kd.R_lit_step (Kd.int .u8) _ 5 ?hg (N := 55) ?hd (xs := ([Go.bits .or .u8 x3_5 32] : List Int)) (inner := [.int .u8 (Go.bits .or .u8 x3_5 32)]) (ok := fun _ => True) (okp := fun _ => True) ?hr ?hp (fun _ hk => hk) trivial (Below.refl _ _) (Nat.le_refl _) (by simp) ?_; (case hd => rfl); (case hg => rfl); (case hr => first | (go_simp; done) | (go_simp; rfl)); (case hp => exact (Reps.one (show Kd.M (Kd.int .u8) _ _ _ (Go.bits .or .u8 x3_5 32) [.int .u8 (Go.bits .or .u8 x3_5 32)] from rfl) (Reps.none _ _)))
                                            intro v179 w37 ho38 hb hg_ hnew_
                                            clear hg_ hnew_
                                            (first | rw [← Ny178.out] at ho38 | (simp only [Int.reduceToNat] at ho38; rw [← Ny178.out] at ho38))
                                            have n0_ := Aside0.mk (Kd.R_lower ho38 (below_size (by repeat (first | (with_reducible first | exact HB.out | apply below_alloc | apply pw_below_drewN | apply below_drew1 | refine below_set ?_ GE170.out) | exact HB.out))))
                                            have n1_ := Aside0.mk (blk_below (g := gb170) (o := .cells #[.int .i64 a0_0, .bool a0_1, .bool a0_2, .int .i64 a0_3, .int .i64 a0_4] 50 (0, 0)) (by (with_reducible repeat (first | refine blk_drewN ?_ _ | refine blk_drew ?_ | refine blk_alloc ?_ _)); exact BK170.out) hb)
                                            have n2_ := Aside0.mk (below_step (by repeat (first | (with_reducible first | exact HB.out | apply below_alloc | apply pw_below_drewN | apply below_drew1 | refine below_set ?_ GE170.out) | exact HB.out)) hb)
                                            clear BK170
                                            clear HB
                                            have HO180 := n0_
                                            have BK170 := n1_
                                            have HB := n2_
                                            clear n0_ n1_ n2_
                                            clear hb ho38
                                            refine hK.out _ _ ⟨(blk_cell BK170.out 0).trans rfl, (blk_cell BK170.out 1).trans rfl, (blk_cell BK170.out 2).trans rfl, (blk_cell BK170.out 3).trans rfl, (blk_cell BK170.out 4).trans rfl⟩ (fun hHeld => ?_)
                                            clear hK K
                                            refine norm_ (a' := ?_) ?_ ?_
                                            rotate_left
                                            · show Act.put _ (some 55) _ = _
                                              simp only [Act.put, List.setIfInBounds_toArray, List.set_cons_zero, List.set_cons_succ, i64_w, i32_w]
                                              rfl
                                            exact norm_ (by first | (simp only [putAll, Act.put, List.setIfInBounds_toArray, List.set_cons_zero, List.set_cons_succ]; done) | (simp only [putAll, Act.put, List.setIfInBounds_toArray, List.set_cons_zero, List.set_cons_succ]; rfl)) (hJ2 (v179) _ ⟨hHeld, (by (with_reducible repeat (first | apply Kd.R_alloc | apply Kd.R_drewN | apply Kd.R_drew)); exact HO180.out), (by (with_reducible repeat (first | refine blk_drewN ?_ _ | refine blk_drew ?_ | refine blk_alloc ?_ _)); exact BK170.out), (by repeat (first | (with_reducible first | exact HB.out | apply below_alloc | apply pw_below_drewN | apply below_drew1 | refine below_set ?_ GE170.out) | exact HB.out))⟩)
                                          · skip
                                            refine goes_ Tryz.func47 (by kernel_rfl) rfl #[.int .u64 (IntKind.u64.wrap (a0_3))] (by rfl) rfl rfl (by (try simp only [List.map_toArray, List.map_cons, List.map_nil]); first | done | rfl | (simp only [List.length_drop, List.length_take]; rfl)) ?_
                                            with_reducible refine (spec_CodVarint.calls kj18 (IntKind.u64.wrap (a0_3)) t181 _ A32.out).mono ?_
                                            rintro e w37 ⟨rfl, hb⟩
                                            refine ⟨_, rfl, ?_⟩
                                            have n0_ := Aside0.mk (blk_below (g := gb170) (o := .cells #[.int .i64 a0_0, .bool a0_1, .bool a0_2, .int .i64 a0_3, .int .i64 a0_4] 50 (0, 0)) (by (with_reducible repeat (first | refine blk_drewN ?_ _ | refine blk_drew ?_ | refine blk_alloc ?_ _)); exact BK170.out) hb)
                                            have n1_ := Aside0.mk (below_step (by repeat (first | (with_reducible first | exact HB.out | apply below_alloc | apply pw_below_drewN | apply below_drew1 | refine below_set ?_ GE170.out) | exact HB.out)) hb)
                                            clear BK170
                                            clear HB
                                            have BK170 := n0_
                                            have HB := n1_
                                            clear n0_ n1_
                                            (try clear hb)
                                            (try clear hb2)
                                            (try clear hk)
                                            (try clear hi)
                                            refine hK.out _ _ ⟨(blk_cell BK170.out 0).trans rfl, (blk_cell BK170.out 1).trans rfl, (blk_cell BK170.out 2).trans rfl, (blk_cell BK170.out 3).trans rfl, (blk_cell BK170.out 4).trans rfl⟩ (fun hHeld => ?_)
                                            clear hK K
                                            refine norm_ (a' := ?_) ?_ ?_
                                            rotate_left
                                            · show Act.put _ (some 60) _ = _
                                              simp only [Act.put, List.setIfInBounds_toArray, List.set_cons_zero, List.set_cons_succ, i64_w, i32_w]
                                              rfl
                                            exact norm_ (by first | (simp only [putAll, Act.put, List.setIfInBounds_toArray, List.set_cons_zero, List.set_cons_succ]; done) | (simp only [putAll, Act.put, List.setIfInBounds_toArray, List.set_cons_zero, List.set_cons_succ]; rfl)) (hJ7 () _ ⟨hHeld, (by (with_reducible repeat (first | refine blk_drewN ?_ _ | refine blk_drew ?_ | refine blk_alloc ?_ _)); exact BK170.out), (by repeat (first | (with_reducible first | exact HB.out | apply below_alloc | apply pw_below_drewN | apply below_drew1 | refine below_set ?_ GE170.out) | exact HB.out))⟩)
                                        · skip
                                          rintro _ w38 ⟨hS_, h0_, h1_⟩
                                          have n0_ : Aside0 (w38.heap[gb170]? = some (.cells #[.int .i64 a0_0, .bool a0_1, .bool a0_2, .int .i64 a0_3, .int .i64 a0_4] 50 (0, 0))) := ⟨h0_⟩
                                          have n1_ : Aside0 (Below w.heap.size w w38) := ⟨h1_⟩
                                          clear BK170
                                          clear HB
                                          clear h0_ h1_
                                          have BK170 := n0_
                                          have HB := n1_
                                          clear n0_ n1_
                                          have hHeld : w38.cell? ⟨gb170, 0, none⟩ = some (.int .i64 a0_0) ∧ w38.cell? ⟨gb170, 1, none⟩ = some (.bool a0_1) ∧ w38.cell? ⟨gb170, 2, none⟩ = some (.bool a0_2) ∧ w38.cell? ⟨gb170, 3, none⟩ = some (.int .i64 a0_3) ∧ w38.cell? ⟨gb170, 4, none⟩ = some (.int .i64 a0_4) := hS_
                                          refine norm_ (a' := ?_) ?_ ?_
                                          rotate_left
                                          · simp only [putAll, Act.put, List.setIfInBounds_toArray, List.set_cons_zero, List.set_cons_succ]
                                            rfl
                                          refine two_ (i := 2) (j := 12) (Ni := some 55) (Nj := some 65) #[true, true, true, false, true, true, true, true, false, true, true, true, false, false, false] #[true, true, false, false, true, true, true, true, false, true, true, true, true, false, false] rfl rfl rfl rfl (two_of HT_.out (by kernel_rfl)) (by decide) (by decide) (fun K hK => ?_) (fun K hK => ?_)
                                          · skip
                                            refine Kd.R_lit_step (Kd.int .u8) _ 5 ?hg (N := 55) ?hd (xs := ([Go.bits .or .u8 x3_5 32] : List Int)) (inner := [.int .u8 (Go.bits .or .u8 x3_5 32)]) (ok := fun _ => True) (okp := fun _ => True) ?hr ?hp (fun _ hk => hk) trivial (Below.refl _ _) (Nat.le_refl _) (by simp) ?_; (case hd => rfl); (case hg => rfl); (case hr => first | (go_simp; done) | (go_simp; rfl)); (case hp => exact (Reps.one (show Kd.M (Kd.int .u8) _ _ _ (Go.bits .or .u8 x3_5 32) [.int .u8 (Go.bits .or .u8 x3_5 32)] from rfl) (Reps.none _ _)))
                                            intro v179 w39 ho40 hb hg_ hnew_
                                            clear hg_ hnew_
                                            (first | rw [← Ny178.out] at ho40 | (simp only [Int.reduceToNat] at ho40; rw [← Ny178.out] at ho40))
                                            have n0_ := Aside0.mk (Kd.R_lower ho40 (below_size (by repeat (first | (with_reducible first | exact HB.out | apply below_alloc | apply pw_below_drewN | apply below_drew1 | refine below_set ?_ GE170.out) | exact HB.out))))
                                            have n1_ := Aside0.mk (blk_below (g := gb170) (o := .cells #[.int .i64 a0_0, .bool a0_1, .bool a0_2, .int .i64 a0_3, .int .i64 a0_4] 50 (0, 0)) (by (with_reducible repeat (first | refine blk_drewN ?_ _ | refine blk_drew ?_ | refine blk_alloc ?_ _)); exact BK170.out) hb)
                                            have n2_ := Aside0.mk (below_step (by repeat (first | (with_reducible first | exact HB.out | apply below_alloc | apply pw_below_drewN | apply below_drew1 | refine below_set ?_ GE170.out) | exact HB.out)) hb)
                                            clear BK170
                                            clear HB
                                            have HO180 := n0_
                                            have BK170 := n1_
                                            have HB := n2_
                                            clear n0_ n1_ n2_
                                            clear hb ho40
                                            refine hK.out _ _ ⟨(blk_cell BK170.out 0).trans rfl, (blk_cell BK170.out 1).trans rfl, (blk_cell BK170.out 2).trans rfl, (blk_cell BK170.out 3).trans rfl, (blk_cell BK170.out 4).trans rfl⟩ (fun hHeld => ?_)
                                            clear hK K
                                            refine norm_ (a' := ?_) ?_ ?_
                                            rotate_left
                                            · show Act.put _ (some 55) _ = _
                                              simp only [Act.put, List.setIfInBounds_toArray, List.set_cons_zero, List.set_cons_succ, i64_w, i32_w]
                                              rfl
                                            exact norm_ (by first | (simp only [putAll, Act.put, List.setIfInBounds_toArray, List.set_cons_zero, List.set_cons_succ]; done) | (simp only [putAll, Act.put, List.setIfInBounds_toArray, List.set_cons_zero, List.set_cons_succ]; rfl)) (hJ2_7 (v179) _ ⟨hHeld, (by (with_reducible repeat (first | apply Kd.R_alloc | apply Kd.R_drewN | apply Kd.R_drew)); exact HO180.out), (by (with_reducible repeat (first | refine blk_drewN ?_ _ | refine blk_drew ?_ | refine blk_alloc ?_ _)); exact BK170.out), (by repeat (first | (with_reducible first | exact HB.out | apply below_alloc | apply pw_below_drewN | apply below_drew1 | refine below_set ?_ GE170.out) | exact HB.out))⟩)
                                          · skip
                                            refine goes_ Tryz.func47 (by kernel_rfl) rfl #[.int .u64 (IntKind.u64.wrap (a0_4))] (by rfl) rfl rfl (by (try simp only [List.map_toArray, List.map_cons, List.map_nil]); first | done | rfl | (simp only [List.length_drop, List.length_take]; rfl)) ?_
                                            with_reducible refine (spec_CodVarint.calls kj18 (IntKind.u64.wrap (a0_4)) t182 _ A34.out).mono ?_
                                            rintro e w39 ⟨rfl, hb⟩
                                            refine ⟨_, rfl, ?_⟩
                                            have n0_ := Aside0.mk (blk_below (g := gb170) (o := .cells #[.int .i64 a0_0, .bool a0_1, .bool a0_2, .int .i64 a0_3, .int .i64 a0_4] 50 (0, 0)) (by (with_reducible repeat (first | refine blk_drewN ?_ _ | refine blk_drew ?_ | refine blk_alloc ?_ _)); exact BK170.out) hb)
                                            have n1_ := Aside0.mk (below_step (by repeat (first | (with_reducible first | exact HB.out | apply below_alloc | apply pw_below_drewN | apply below_drew1 | refine below_set ?_ GE170.out) | exact HB.out)) hb)
                                            clear BK170
                                            clear HB
                                            have BK170 := n0_
                                            have HB := n1_
                                            clear n0_ n1_
                                            (try clear hb)
                                            (try clear hb2)
                                            (try clear hk)
                                            (try clear hi)
                                            refine hK.out _ _ ⟨(blk_cell BK170.out 0).trans rfl, (blk_cell BK170.out 1).trans rfl, (blk_cell BK170.out 2).trans rfl, (blk_cell BK170.out 3).trans rfl, (blk_cell BK170.out 4).trans rfl⟩ (fun hHeld => ?_)
                                            clear hK K
                                            refine norm_ (a' := ?_) ?_ ?_
                                            rotate_left
                                            · show Act.put _ (some 65) _ = _
                                              simp only [Act.put, List.setIfInBounds_toArray, List.set_cons_zero, List.set_cons_succ, i64_w, i32_w]
                                              rfl
                                            exact norm_ (by first | (simp only [putAll, Act.put, List.setIfInBounds_toArray, List.set_cons_zero, List.set_cons_succ]; done) | (simp only [putAll, Act.put, List.setIfInBounds_toArray, List.set_cons_zero, List.set_cons_succ]; rfl)) (hJ7_12 () _ ⟨hHeld, (by (with_reducible repeat (first | refine blk_drewN ?_ _ | refine blk_drew ?_ | refine blk_alloc ?_ _)); exact BK170.out), (by repeat (first | (with_reducible first | exact HB.out | apply below_alloc | apply pw_below_drewN | apply below_drew1 | refine below_set ?_ GE170.out) | exact HB.out))⟩)
                                      · skip
                                        rintro v179 w39 ⟨hS_, h0_, h1_, h2_⟩
                                        have n0_ : Aside0 (Kd.R (Kd.int .u8) 5 w39 w.heap.size (fun _ => True) v179 y178) := ⟨h0_⟩
                                        have n1_ : Aside0 (w39.heap[gb170]? = some (.cells #[.int .i64 a0_0, .bool a0_1, .bool a0_2, .int .i64 a0_3, .int .i64 a0_4] 50 (0, 0))) := ⟨h1_⟩
                                        have n2_ : Aside0 (Below w.heap.size w w39) := ⟨h2_⟩
                                        clear BK170
                                        clear HB
                                        clear h0_ h1_ h2_
                                        have HO180 := n0_
                                        have BK170 := n1_
                                        have HB := n2_
                                        clear n0_ n1_ n2_
                                        have hHeld : w39.cell? ⟨gb170, 0, none⟩ = some (.int .i64 a0_0) ∧ w39.cell? ⟨gb170, 1, none⟩ = some (.bool a0_1) ∧ w39.cell? ⟨gb170, 2, none⟩ = some (.bool a0_2) ∧ w39.cell? ⟨gb170, 3, none⟩ = some (.int .i64 a0_3) ∧ w39.cell? ⟨gb170, 4, none⟩ = some (.int .i64 a0_4) := hS_
                                        refine norm_ (a' := ?_) ?_ ?_
                                        rotate_left
                                        · simp only [putAll, Act.put, List.setIfInBounds_toArray, List.set_cons_zero, List.set_cons_succ]
                                          rfl
                                        refine two_ (i := 3) (j := 7) (Ni := some 56) (Nj := some 60) #[true, true, true, true, true, true, true, false, false, true, true, true, false, false, false] #[true, true, true, false, true, true, true, true, false, true, true, true, false, false, false] rfl rfl rfl rfl (two_of HT_.out (by kernel_rfl)) (by decide) (by decide) (fun K hK => ?_) (fun K hK => ?_)
                                        · skip
                                          have hcv40 := own_string (P := Tryz.prog) Tryz.underlying77 Tryz.underlying5 Tryz.underlying9 (Kd.own_of_R HO180.out)
                                          refine value_ (w1 := ?_) (v := ?_) (by rfl) rfl ?_ ?_
                                          rotate_left 2
                                          · go_simp
                                            constructor
                                            · rfl
                                            · rfl
                                          clear hcv40
                                          refine hK.out _ _ ⟨(blk_cell BK170.out 0).trans rfl, (blk_cell BK170.out 1).trans rfl, (blk_cell BK170.out 2).trans rfl, (blk_cell BK170.out 3).trans rfl, (blk_cell BK170.out 4).trans rfl⟩ (fun hHeld => ?_)
                                          clear hK K
                                          refine norm_ (a' := ?_) ?_ ?_
                                          rotate_left
                                          · show Act.put _ (some 56) _ = _
                                            simp only [Act.put, List.setIfInBounds_toArray, List.set_cons_zero, List.set_cons_succ, i64_w, i32_w]
                                            rfl
                                          exact norm_ (by first | (simp only [putAll, Act.put, List.setIfInBounds_toArray, List.set_cons_zero, List.set_cons_succ]; done) | (simp only [putAll, Act.put, List.setIfInBounds_toArray, List.set_cons_zero, List.set_cons_succ]; rfl)) (hJ2_3 (v179) _ ⟨hHeld, (by (with_reducible repeat (first | apply Kd.R_alloc | apply Kd.R_drewN | apply Kd.R_drew)); exact HO180.out), (by (with_reducible repeat (first | refine blk_drewN ?_ _ | refine blk_drew ?_ | refine blk_alloc ?_ _)); exact BK170.out), (by repeat (first | (with_reducible first | exact HB.out | apply below_alloc | apply pw_below_drewN | apply below_drew1 | refine below_set ?_ GE170.out) | exact HB.out))⟩)
                                        · skip
                                          refine goes_ Tryz.func47 (by kernel_rfl) rfl #[.int .u64 (IntKind.u64.wrap (a0_3))] (by rfl) rfl rfl (by (try simp only [List.map_toArray, List.map_cons, List.map_nil]); first | done | rfl | (simp only [List.length_drop, List.length_take]; rfl)) ?_
                                          with_reducible refine (spec_CodVarint.calls kj18 (IntKind.u64.wrap (a0_3)) t181 _ A32.out).mono ?_
                                          rintro e w40 ⟨rfl, hb⟩
                                          refine ⟨_, rfl, ?_⟩
                                          have n0_ := Aside0.mk (Kd.R_below (by (with_reducible repeat (first | apply Kd.R_alloc | apply Kd.R_drewN | apply Kd.R_drew)); exact HO180.out) hb)
                                          have n1_ := Aside0.mk (blk_below (g := gb170) (o := .cells #[.int .i64 a0_0, .bool a0_1, .bool a0_2, .int .i64 a0_3, .int .i64 a0_4] 50 (0, 0)) (by (with_reducible repeat (first | refine blk_drewN ?_ _ | refine blk_drew ?_ | refine blk_alloc ?_ _)); exact BK170.out) hb)
                                          have n2_ := Aside0.mk (below_step (by repeat (first | (with_reducible first | exact HB.out | apply below_alloc | apply pw_below_drewN | apply below_drew1 | refine below_set ?_ GE170.out) | exact HB.out)) hb)
                                          clear HO180
                                          clear BK170
                                          clear HB
                                          have HO180 := n0_
                                          have BK170 := n1_
                                          have HB := n2_
                                          clear n0_ n1_ n2_
                                          (try clear hb)
                                          (try clear hb2)
                                          (try clear hk)
                                          (try clear hi)
                                          refine hK.out _ _ ⟨(blk_cell BK170.out 0).trans rfl, (blk_cell BK170.out 1).trans rfl, (blk_cell BK170.out 2).trans rfl, (blk_cell BK170.out 3).trans rfl, (blk_cell BK170.out 4).trans rfl⟩ (fun hHeld => ?_)
                                          clear hK K
                                          refine norm_ (a' := ?_) ?_ ?_
                                          rotate_left
                                          · show Act.put _ (some 60) _ = _
                                            simp only [Act.put, List.setIfInBounds_toArray, List.set_cons_zero, List.set_cons_succ, i64_w, i32_w]
                                            rfl
                                          exact norm_ (by first | (simp only [putAll, Act.put, List.setIfInBounds_toArray, List.set_cons_zero, List.set_cons_succ]; done) | (simp only [putAll, Act.put, List.setIfInBounds_toArray, List.set_cons_zero, List.set_cons_succ]; rfl)) (hJ2_7 (v179) _ ⟨hHeld, (by (with_reducible repeat (first | apply Kd.R_alloc | apply Kd.R_drewN | apply Kd.R_drew)); exact HO180.out), (by (with_reducible repeat (first | refine blk_drewN ?_ _ | refine blk_drew ?_ | refine blk_alloc ?_ _)); exact BK170.out), (by repeat (first | (with_reducible first | exact HB.out | apply below_alloc | apply pw_below_drewN | apply below_drew1 | refine below_set ?_ GE170.out) | exact HB.out))⟩)
                                    · skip
                                      rintro _ w39 ⟨hS_, h0_, h1_⟩
                                      have n0_ : Aside0 (w39.heap[gb170]? = some (.cells #[.int .i64 a0_0, .bool a0_1, .bool a0_2, .int .i64 a0_3, .int .i64 a0_4] 50 (0, 0))) := ⟨h0_⟩
                                      have n1_ : Aside0 (Below w.heap.size w w39) := ⟨h1_⟩
                                      clear BK170
                                      clear HB
                                      clear h0_ h1_
                                      have BK170 := n0_
                                      have HB := n1_
                                      clear n0_ n1_
                                      have hHeld : w39.cell? ⟨gb170, 0, none⟩ = some (.int .i64 a0_0) ∧ w39.cell? ⟨gb170, 1, none⟩ = some (.bool a0_1) ∧ w39.cell? ⟨gb170, 2, none⟩ = some (.bool a0_2) ∧ w39.cell? ⟨gb170, 3, none⟩ = some (.int .i64 a0_3) ∧ w39.cell? ⟨gb170, 4, none⟩ = some (.int .i64 a0_4) := hS_
                                      refine norm_ (a' := ?_) ?_ ?_
                                      rotate_left
                                      · simp only [putAll, Act.put, List.setIfInBounds_toArray, List.set_cons_zero, List.set_cons_succ]
                                        rfl
                                      refine one_ (i := 2) (N := some 55) #[true, true, true, false, true, true, true, true, false, true, true, true, true, false, false] rfl rfl (one_of HT_.out (by kernel_rfl)) (by decide) (fun K hK => ?_)
                                      refine Kd.R_lit_step (Kd.int .u8) _ 5 ?hg (N := 55) ?hd (xs := ([Go.bits .or .u8 x3_5 32] : List Int)) (inner := [.int .u8 (Go.bits .or .u8 x3_5 32)]) (ok := fun _ => True) (okp := fun _ => True) ?hr ?hp (fun _ hk => hk) trivial (Below.refl _ _) (Nat.le_refl _) (by simp) ?_; (case hd => rfl); (case hg => rfl); (case hr => first | (go_simp; done) | (go_simp; rfl)); (case hp => exact (Reps.one (show Kd.M (Kd.int .u8) _ _ _ (Go.bits .or .u8 x3_5 32) [.int .u8 (Go.bits .or .u8 x3_5 32)] from rfl) (Reps.none _ _)))
                                      intro v179 w40 ho41 hb hg_ hnew_
                                      clear hg_ hnew_
                                      (first | rw [← Ny178.out] at ho41 | (simp only [Int.reduceToNat] at ho41; rw [← Ny178.out] at ho41))
                                      have n0_ := Aside0.mk (Kd.R_lower ho41 (below_size (by repeat (first | (with_reducible first | exact HB.out | apply below_alloc | apply pw_below_drewN | apply below_drew1 | refine below_set ?_ GE170.out) | exact HB.out))))
                                      have n1_ := Aside0.mk (blk_below (g := gb170) (o := .cells #[.int .i64 a0_0, .bool a0_1, .bool a0_2, .int .i64 a0_3, .int .i64 a0_4] 50 (0, 0)) (by (with_reducible repeat (first | refine blk_drewN ?_ _ | refine blk_drew ?_ | refine blk_alloc ?_ _)); exact BK170.out) hb)
                                      have n2_ := Aside0.mk (below_step (by repeat (first | (with_reducible first | exact HB.out | apply below_alloc | apply pw_below_drewN | apply below_drew1 | refine below_set ?_ GE170.out) | exact HB.out)) hb)
                                      clear BK170
                                      clear HB
                                      have HO180 := n0_
                                      have BK170 := n1_
                                      have HB := n2_
                                      clear n0_ n1_ n2_
                                      clear hb ho41
                                      refine hK.out _ _ ⟨(blk_cell BK170.out 0).trans rfl, (blk_cell BK170.out 1).trans rfl, (blk_cell BK170.out 2).trans rfl, (blk_cell BK170.out 3).trans rfl, (blk_cell BK170.out 4).trans rfl⟩ (fun hHeld => ?_)
                                      clear hK K
                                      refine norm_ (a' := ?_) ?_ ?_
                                      rotate_left
                                      · show Act.put _ (some 55) _ = _
                                        simp only [Act.put, List.setIfInBounds_toArray, List.set_cons_zero, List.set_cons_succ, i64_w, i32_w]
                                        rfl
                                      exact norm_ (by first | (simp only [putAll, Act.put, List.setIfInBounds_toArray, List.set_cons_zero, List.set_cons_succ]; done) | (simp only [putAll, Act.put, List.setIfInBounds_toArray, List.set_cons_zero, List.set_cons_succ]; rfl)) (hJ2_7_12 (v179) _ ⟨hHeld, (by (with_reducible repeat (first | apply Kd.R_alloc | apply Kd.R_drewN | apply Kd.R_drew)); exact HO180.out), (by (with_reducible repeat (first | refine blk_drewN ?_ _ | refine blk_drew ?_ | refine blk_alloc ?_ _)); exact BK170.out), (by repeat (first | (with_reducible first | exact HB.out | apply below_alloc | apply pw_below_drewN | apply below_drew1 | refine below_set ?_ GE170.out) | exact HB.out))⟩)
                                  · skip
                                    rintro v179 w40 ⟨hS_, h0_, h1_, h2_⟩
                                    have n0_ : Aside0 (Kd.R (Kd.int .u8) 5 w40 w.heap.size (fun _ => True) v179 y178) := ⟨h0_⟩
                                    have n1_ : Aside0 (w40.heap[gb170]? = some (.cells #[.int .i64 a0_0, .bool a0_1, .bool a0_2, .int .i64 a0_3, .int .i64 a0_4] 50 (0, 0))) := ⟨h1_⟩
                                    have n2_ : Aside0 (Below w.heap.size w w40) := ⟨h2_⟩
                                    clear BK170
                                    clear HB
                                    clear h0_ h1_ h2_
                                    have HO180 := n0_
                                    have BK170 := n1_
                                    have HB := n2_
                                    clear n0_ n1_ n2_
                                    have hHeld : w40.cell? ⟨gb170, 0, none⟩ = some (.int .i64 a0_0) ∧ w40.cell? ⟨gb170, 1, none⟩ = some (.bool a0_1) ∧ w40.cell? ⟨gb170, 2, none⟩ = some (.bool a0_2) ∧ w40.cell? ⟨gb170, 3, none⟩ = some (.int .i64 a0_3) ∧ w40.cell? ⟨gb170, 4, none⟩ = some (.int .i64 a0_4) := hS_
                                    refine norm_ (a' := ?_) ?_ ?_
                                    rotate_left
                                    · simp only [putAll, Act.put, List.setIfInBounds_toArray, List.set_cons_zero, List.set_cons_succ]
                                      rfl
                                    refine two_ (i := 3) (j := 12) (Ni := some 56) (Nj := some 65) #[true, true, true, true, true, true, true, true, false, true, true, true, false, false, false] #[true, true, true, false, true, true, true, true, false, true, true, true, true, false, false] rfl rfl rfl rfl (two_of HT_.out (by kernel_rfl)) (by decide) (by decide) (fun K hK => ?_) (fun K hK => ?_)
                                    · skip
                                      have hcv41 := own_string (P := Tryz.prog) Tryz.underlying77 Tryz.underlying5 Tryz.underlying9 (Kd.own_of_R HO180.out)
                                      refine value_ (w1 := ?_) (v := ?_) (by rfl) rfl ?_ ?_
                                      rotate_left 2
                                      · go_simp
                                        constructor
                                        · rfl
                                        · rfl
                                      clear hcv41
                                      refine hK.out _ _ ⟨(blk_cell BK170.out 0).trans rfl, (blk_cell BK170.out 1).trans rfl, (blk_cell BK170.out 2).trans rfl, (blk_cell BK170.out 3).trans rfl, (blk_cell BK170.out 4).trans rfl⟩ (fun hHeld => ?_)
                                      clear hK K
                                      refine norm_ (a' := ?_) ?_ ?_
                                      rotate_left
                                      · show Act.put _ (some 56) _ = _
                                        simp only [Act.put, List.setIfInBounds_toArray, List.set_cons_zero, List.set_cons_succ, i64_w, i32_w]
                                        rfl
                                      refine pure_ (i := 8) (N := some 61) (v := ?_) (a' := ?_) #[true, true, true, true, true, true, true, true, true, true, true, true, false, false, false] rfl rfl (any_of HT_.out (by kernel_rfl)) (fun _ _ _ h => h) (Or.inl ⟨by rfl, ?_⟩) ?_ ?_
                                      rotate_left
                                      · intro w'
                                        go_simp
                                        with_reducible rfl
                                      rotate_left
                                      · simp only [Act.put, List.setIfInBounds_toArray, List.set_cons_zero, List.set_cons_succ, i64_w, i32_w]
                                        rfl
                                      exact norm_ (by first | (simp only [putAll, Act.put, List.setIfInBounds_toArray, List.set_cons_zero, List.set_cons_succ]; done) | (simp only [putAll, Act.put, List.setIfInBounds_toArray, List.set_cons_zero, List.set_cons_succ]; rfl)) (hJ2_3_7 (v179) _ ⟨hHeld, (by (with_reducible repeat (first | apply Kd.R_alloc | apply Kd.R_drewN | apply Kd.R_drew)); exact HO180.out), (by (with_reducible repeat (first | refine blk_drewN ?_ _ | refine blk_drew ?_ | refine blk_alloc ?_ _)); exact BK170.out), (by repeat (first | (with_reducible first | exact HB.out | apply below_alloc | apply pw_below_drewN | apply below_drew1 | refine below_set ?_ GE170.out) | exact HB.out))⟩)
                                    · skip
                                      refine goes_ Tryz.func47 (by kernel_rfl) rfl #[.int .u64 (IntKind.u64.wrap (a0_4))] (by rfl) rfl rfl (by (try simp only [List.map_toArray, List.map_cons, List.map_nil]); first | done | rfl | (simp only [List.length_drop, List.length_take]; rfl)) ?_
                                      with_reducible refine (spec_CodVarint.calls kj18 (IntKind.u64.wrap (a0_4)) t182 _ A34.out).mono ?_
                                      rintro e w41 ⟨rfl, hb⟩
                                      refine ⟨_, rfl, ?_⟩
                                      have n0_ := Aside0.mk (Kd.R_below (by (with_reducible repeat (first | apply Kd.R_alloc | apply Kd.R_drewN | apply Kd.R_drew)); exact HO180.out) hb)
                                      have n1_ := Aside0.mk (blk_below (g := gb170) (o := .cells #[.int .i64 a0_0, .bool a0_1, .bool a0_2, .int .i64 a0_3, .int .i64 a0_4] 50 (0, 0)) (by (with_reducible repeat (first | refine blk_drewN ?_ _ | refine blk_drew ?_ | refine blk_alloc ?_ _)); exact BK170.out) hb)
                                      have n2_ := Aside0.mk (below_step (by repeat (first | (with_reducible first | exact HB.out | apply below_alloc | apply pw_below_drewN | apply below_drew1 | refine below_set ?_ GE170.out) | exact HB.out)) hb)
                                      clear HO180
                                      clear BK170
                                      clear HB
                                      have HO180 := n0_
                                      have BK170 := n1_
                                      have HB := n2_
                                      clear n0_ n1_ n2_
                                      (try clear hb)
                                      (try clear hb2)
                                      (try clear hk)
                                      (try clear hi)
                                      refine hK.out _ _ ⟨(blk_cell BK170.out 0).trans rfl, (blk_cell BK170.out 1).trans rfl, (blk_cell BK170.out 2).trans rfl, (blk_cell BK170.out 3).trans rfl, (blk_cell BK170.out 4).trans rfl⟩ (fun hHeld => ?_)
                                      clear hK K
                                      refine norm_ (a' := ?_) ?_ ?_
                                      rotate_left
                                      · show Act.put _ (some 65) _ = _
                                        simp only [Act.put, List.setIfInBounds_toArray, List.set_cons_zero, List.set_cons_succ, i64_w, i32_w]
                                        rfl
                                      exact norm_ (by first | (simp only [putAll, Act.put, List.setIfInBounds_toArray, List.set_cons_zero, List.set_cons_succ]; done) | (simp only [putAll, Act.put, List.setIfInBounds_toArray, List.set_cons_zero, List.set_cons_succ]; rfl)) (hJ2_7_12 (v179) _ ⟨hHeld, (by (with_reducible repeat (first | apply Kd.R_alloc | apply Kd.R_drewN | apply Kd.R_drew)); exact HO180.out), (by (with_reducible repeat (first | refine blk_drewN ?_ _ | refine blk_drew ?_ | refine blk_alloc ?_ _)); exact BK170.out), (by repeat (first | (with_reducible first | exact HB.out | apply below_alloc | apply pw_below_drewN | apply below_drew1 | refine below_set ?_ GE170.out) | exact HB.out))⟩)
                                · skip
                                  rintro v179 w40 ⟨hS_, h0_, h1_, h2_⟩
                                  have n0_ : Aside0 (Kd.R (Kd.int .u8) 5 w40 w.heap.size (fun _ => True) v179 y178) := ⟨h0_⟩
                                  have n1_ : Aside0 (w40.heap[gb170]? = some (.cells #[.int .i64 a0_0, .bool a0_1, .bool a0_2, .int .i64 a0_3, .int .i64 a0_4] 50 (0, 0))) := ⟨h1_⟩
                                  have n2_ : Aside0 (Below w.heap.size w w40) := ⟨h2_⟩
                                  clear BK170
                                  clear HB
                                  clear h0_ h1_ h2_
                                  have HO180 := n0_
                                  have BK170 := n1_
                                  have HB := n2_
                                  clear n0_ n1_ n2_
                                  have hHeld : w40.cell? ⟨gb170, 0, none⟩ = some (.int .i64 a0_0) ∧ w40.cell? ⟨gb170, 1, none⟩ = some (.bool a0_1) ∧ w40.cell? ⟨gb170, 2, none⟩ = some (.bool a0_2) ∧ w40.cell? ⟨gb170, 3, none⟩ = some (.int .i64 a0_3) ∧ w40.cell? ⟨gb170, 4, none⟩ = some (.int .i64 a0_4) := hS_
                                  refine norm_ (a' := ?_) ?_ ?_
                                  rotate_left
                                  · simp only [putAll, Act.put, List.setIfInBounds_toArray, List.set_cons_zero, List.set_cons_succ]
                                    rfl
                                  refine one_ (i := 7) (N := some 60) #[true, true, true, true, true, true, true, true, false, true, true, true, false, false, false] rfl rfl (one_of HT_.out (by kernel_rfl)) (by decide) (fun K hK => ?_)
                                  refine goes_ Tryz.func47 (by kernel_rfl) rfl #[.int .u64 (IntKind.u64.wrap (a0_3))] (by rfl) rfl rfl (by (try simp only [List.map_toArray, List.map_cons, List.map_nil]); first | done | rfl | (simp only [List.length_drop, List.length_take]; rfl)) ?_
                                  with_reducible refine (spec_CodVarint.calls kj18 (IntKind.u64.wrap (a0_3)) t181 _ A32.out).mono ?_
                                  rintro e w41 ⟨rfl, hb⟩
                                  refine ⟨_, rfl, ?_⟩
                                  have n0_ := Aside0.mk (Kd.R_below (by (with_reducible repeat (first | apply Kd.R_alloc | apply Kd.R_drewN | apply Kd.R_drew)); exact HO180.out) hb)
                                  have n1_ := Aside0.mk (blk_below (g := gb170) (o := .cells #[.int .i64 a0_0, .bool a0_1, .bool a0_2, .int .i64 a0_3, .int .i64 a0_4] 50 (0, 0)) (by (with_reducible repeat (first | refine blk_drewN ?_ _ | refine blk_drew ?_ | refine blk_alloc ?_ _)); exact BK170.out) hb)
                                  have n2_ := Aside0.mk (below_step (by repeat (first | (with_reducible first | exact HB.out | apply below_alloc | apply pw_below_drewN | apply below_drew1 | refine below_set ?_ GE170.out) | exact HB.out)) hb)
                                  clear HO180
                                  clear BK170
                                  clear HB
                                  have HO180 := n0_
                                  have BK170 := n1_
                                  have HB := n2_
                                  clear n0_ n1_ n2_
                                  (try clear hb)
                                  (try clear hb2)
                                  (try clear hk)
                                  (try clear hi)
                                  refine hK.out _ _ ⟨(blk_cell BK170.out 0).trans rfl, (blk_cell BK170.out 1).trans rfl, (blk_cell BK170.out 2).trans rfl, (blk_cell BK170.out 3).trans rfl, (blk_cell BK170.out 4).trans rfl⟩ (fun hHeld => ?_)
                                  clear hK K
                                  refine norm_ (a' := ?_) ?_ ?_
                                  rotate_left
                                  · show Act.put _ (some 60) _ = _
                                    simp only [Act.put, List.setIfInBounds_toArray, List.set_cons_zero, List.set_cons_succ, i64_w, i32_w]
                                    rfl
                                  refine pure_ (i := 8) (N := some 61) (v := ?_) (a' := ?_) #[true, true, true, true, true, true, true, true, true, true, true, true, false, false, false] rfl rfl (any_of HT_.out (by kernel_rfl)) (fun _ _ _ h => h) (Or.inl ⟨by rfl, ?_⟩) ?_ ?_
                                  rotate_left
                                  · intro w'
                                    go_simp
                                    with_reducible rfl
                                  rotate_left
                                  · simp only [Act.put, List.setIfInBounds_toArray, List.set_cons_zero, List.set_cons_succ, i64_w, i32_w]
                                    rfl
                                  exact norm_ (by first | (simp only [putAll, Act.put, List.setIfInBounds_toArray, List.set_cons_zero, List.set_cons_succ]; done) | (simp only [putAll, Act.put, List.setIfInBounds_toArray, List.set_cons_zero, List.set_cons_succ]; rfl)) (hJ2_3_7 (v179) _ ⟨hHeld, (by (with_reducible repeat (first | apply Kd.R_alloc | apply Kd.R_drewN | apply Kd.R_drew)); exact HO180.out), (by (with_reducible repeat (first | refine blk_drewN ?_ _ | refine blk_drew ?_ | refine blk_alloc ?_ _)); exact BK170.out), (by repeat (first | (with_reducible first | exact HB.out | apply below_alloc | apply pw_below_drewN | apply below_drew1 | refine below_set ?_ GE170.out) | exact HB.out))⟩)
                              · skip
                                rintro v179 w41 ⟨hS_, h0_, h1_, h2_⟩
                                have n0_ : Aside0 (Kd.R (Kd.int .u8) 5 w41 w.heap.size (fun _ => True) v179 y178) := ⟨h0_⟩
                                have n1_ : Aside0 (w41.heap[gb170]? = some (.cells #[.int .i64 a0_0, .bool a0_1, .bool a0_2, .int .i64 a0_3, .int .i64 a0_4] 50 (0, 0))) := ⟨h1_⟩
                                have n2_ : Aside0 (Below w.heap.size w w41) := ⟨h2_⟩
                                clear BK170
                                clear HB
                                clear h0_ h1_ h2_
                                have HO180 := n0_
                                have BK170 := n1_
                                have HB := n2_
                                clear n0_ n1_ n2_
                                have hHeld : w41.cell? ⟨gb170, 0, none⟩ = some (.int .i64 a0_0) ∧ w41.cell? ⟨gb170, 1, none⟩ = some (.bool a0_1) ∧ w41.cell? ⟨gb170, 2, none⟩ = some (.bool a0_2) ∧ w41.cell? ⟨gb170, 3, none⟩ = some (.int .i64 a0_3) ∧ w41.cell? ⟨gb170, 4, none⟩ = some (.int .i64 a0_4) := hS_
                                refine norm_ (a' := ?_) ?_ ?_
                                rotate_left
                                · simp only [putAll, Act.put, List.setIfInBounds_toArray, List.set_cons_zero, List.set_cons_succ]
                                  rfl
                                refine one_ (i := 3) (N := some 56) #[true, true, true, true, true, true, true, true, false, true, true, true, true, false, false] rfl rfl (one_of HT_.out (by kernel_rfl)) (by decide) (fun K hK => ?_)
                                have hcv42 := own_string (P := Tryz.prog) Tryz.underlying77 Tryz.underlying5 Tryz.underlying9 (Kd.own_of_R HO180.out)
                                refine value_ (w1 := ?_) (v := ?_) (by rfl) rfl ?_ ?_
                                rotate_left 2
                                · go_simp
                                  constructor
                                  · rfl
                                  · rfl
                                clear hcv42
                                refine hK.out _ _ ⟨(blk_cell BK170.out 0).trans rfl, (blk_cell BK170.out 1).trans rfl, (blk_cell BK170.out 2).trans rfl, (blk_cell BK170.out 3).trans rfl, (blk_cell BK170.out 4).trans rfl⟩ (fun hHeld => ?_)
                                clear hK K
                                refine norm_ (a' := ?_) ?_ ?_
                                rotate_left
                                · show Act.put _ (some 56) _ = _
                                  simp only [Act.put, List.setIfInBounds_toArray, List.set_cons_zero, List.set_cons_succ, i64_w, i32_w]
                                  rfl
                                refine pure_ (i := 8) (N := some 61) (v := ?_) (a' := ?_) #[true, true, true, true, true, true, true, true, true, true, true, true, true, false, false] rfl rfl (any_of HT_.out (by kernel_rfl)) (fun _ _ _ h => h) (Or.inl ⟨by rfl, ?_⟩) ?_ ?_
                                rotate_left
                                · intro w'
                                  go_simp
                                  with_reducible rfl
                                rotate_left
                                · simp only [Act.put, List.setIfInBounds_toArray, List.set_cons_zero, List.set_cons_succ, i64_w, i32_w]
                                  rfl
                                exact norm_ (by first | (simp only [putAll, Act.put, List.setIfInBounds_toArray, List.set_cons_zero, List.set_cons_succ]; done) | (simp only [putAll, Act.put, List.setIfInBounds_toArray, List.set_cons_zero, List.set_cons_succ]; rfl)) (hJ2_3_7_12 (v179) _ ⟨hHeld, (by (with_reducible repeat (first | apply Kd.R_alloc | apply Kd.R_drewN | apply Kd.R_drew)); exact HO180.out), (by (with_reducible repeat (first | refine blk_drewN ?_ _ | refine blk_drew ?_ | refine blk_alloc ?_ _)); exact BK170.out), (by repeat (first | (with_reducible first | exact HB.out | apply below_alloc | apply pw_below_drewN | apply below_drew1 | refine below_set ?_ GE170.out) | exact HB.out))⟩)
                            · skip
                              rintro v179 w41 ⟨hS_, h0_, h1_, h2_⟩
                              have n0_ : Aside0 (Kd.R (Kd.int .u8) 5 w41 w.heap.size (fun _ => True) v179 y178) := ⟨h0_⟩
                              have n1_ : Aside0 (w41.heap[gb170]? = some (.cells #[.int .i64 a0_0, .bool a0_1, .bool a0_2, .int .i64 a0_3, .int .i64 a0_4] 50 (0, 0))) := ⟨h1_⟩
                              have n2_ : Aside0 (Below w.heap.size w w41) := ⟨h2_⟩
                              clear BK170
                              clear HB
                              clear h0_ h1_ h2_
                              have HO180 := n0_
                              have BK170 := n1_
                              have HB := n2_
                              clear n0_ n1_ n2_
                              have hHeld : w41.cell? ⟨gb170, 0, none⟩ = some (.int .i64 a0_0) ∧ w41.cell? ⟨gb170, 1, none⟩ = some (.bool a0_1) ∧ w41.cell? ⟨gb170, 2, none⟩ = some (.bool a0_2) ∧ w41.cell? ⟨gb170, 3, none⟩ = some (.int .i64 a0_3) ∧ w41.cell? ⟨gb170, 4, none⟩ = some (.int .i64 a0_4) := hS_
                              refine norm_ (a' := ?_) ?_ ?_
                              rotate_left
                              · simp only [putAll, Act.put, List.setIfInBounds_toArray, List.set_cons_zero, List.set_cons_succ]
                                rfl
                              refine one_ (i := 12) (N := some 65) #[true, true, true, true, true, true, true, true, true, true, true, true, true, false, false] rfl rfl (one_of HT_.out (by kernel_rfl)) (by decide) (fun K hK => ?_)
                              refine goes_ Tryz.func47 (by kernel_rfl) rfl #[.int .u64 (IntKind.u64.wrap (a0_4))] (by rfl) rfl rfl (by (try simp only [List.map_toArray, List.map_cons, List.map_nil]); first | done | rfl | (simp only [List.length_drop, List.length_take]; rfl)) ?_
                              with_reducible refine (spec_CodVarint.calls kj18 (IntKind.u64.wrap (a0_4)) t182 _ A34.out).mono ?_
                              rintro e w42 ⟨rfl, hb⟩
                              refine ⟨_, rfl, ?_⟩
                              have n0_ := Aside0.mk (Kd.R_below (by (with_reducible repeat (first | apply Kd.R_alloc | apply Kd.R_drewN | apply Kd.R_drew)); exact HO180.out) hb)
                              have n1_ := Aside0.mk (blk_below (g := gb170) (o := .cells #[.int .i64 a0_0, .bool a0_1, .bool a0_2, .int .i64 a0_3, .int .i64 a0_4] 50 (0, 0)) (by (with_reducible repeat (first | refine blk_drewN ?_ _ | refine blk_drew ?_ | refine blk_alloc ?_ _)); exact BK170.out) hb)
                              have n2_ := Aside0.mk (below_step (by repeat (first | (with_reducible first | exact HB.out | apply below_alloc | apply pw_below_drewN | apply below_drew1 | refine below_set ?_ GE170.out) | exact HB.out)) hb)
                              clear HO180
                              clear BK170
                              clear HB
                              have HO180 := n0_
                              have BK170 := n1_
                              have HB := n2_
                              clear n0_ n1_ n2_
                              (try clear hb)
                              (try clear hb2)
                              (try clear hk)
                              (try clear hi)
                              refine hK.out _ _ ⟨(blk_cell BK170.out 0).trans rfl, (blk_cell BK170.out 1).trans rfl, (blk_cell BK170.out 2).trans rfl, (blk_cell BK170.out 3).trans rfl, (blk_cell BK170.out 4).trans rfl⟩ (fun hHeld => ?_)
                              clear hK K
                              refine norm_ (a' := ?_) ?_ ?_
                              rotate_left
                              · show Act.put _ (some 65) _ = _
                                simp only [Act.put, List.setIfInBounds_toArray, List.set_cons_zero, List.set_cons_succ, i64_w, i32_w]
                                rfl
                              exact norm_ (by first | (simp only [putAll, Act.put, List.setIfInBounds_toArray, List.set_cons_zero, List.set_cons_succ]; done) | (simp only [putAll, Act.put, List.setIfInBounds_toArray, List.set_cons_zero, List.set_cons_succ]; rfl)) (hJ2_3_7_12 (v179) _ ⟨hHeld, (by (with_reducible repeat (first | apply Kd.R_alloc | apply Kd.R_drewN | apply Kd.R_drew)); exact HO180.out), (by (with_reducible repeat (first | refine blk_drewN ?_ _ | refine blk_drew ?_ | refine blk_alloc ?_ _)); exact BK170.out), (by repeat (first | (with_reducible first | exact HB.out | apply below_alloc | apply pw_below_drewN | apply below_drew1 | refine below_set ?_ GE170.out) | exact HB.out))⟩)
                          rintro v179 w42 ⟨hS_, h0_, h1_, h2_⟩
                          have n0_ : Aside0 (Kd.R (Kd.int .u8) 5 w42 w.heap.size (fun _ => True) v179 y178) := ⟨h0_⟩
                          have n1_ : Aside0 (w42.heap[gb170]? = some (.cells #[.int .i64 a0_0, .bool a0_1, .bool a0_2, .int .i64 a0_3, .int .i64 a0_4] 50 (0, 0))) := ⟨h1_⟩
                          have n2_ : Aside0 (Below w.heap.size w w42) := ⟨h2_⟩
                          clear BK170
                          clear HB
                          clear h0_ h1_ h2_
                          have HO180 := n0_
                          have BK170 := n1_
                          have HB := n2_
                          clear n0_ n1_ n2_
                          have hHeld : w42.cell? ⟨gb170, 0, none⟩ = some (.int .i64 a0_0) ∧ w42.cell? ⟨gb170, 1, none⟩ = some (.bool a0_1) ∧ w42.cell? ⟨gb170, 2, none⟩ = some (.bool a0_2) ∧ w42.cell? ⟨gb170, 3, none⟩ = some (.int .i64 a0_3) ∧ w42.cell? ⟨gb170, 4, none⟩ = some (.int .i64 a0_4) := hS_
                          refine norm_ (a' := ?_) ?_ ?_
                          rotate_left
                          · simp only [putAll, Act.put, List.setIfInBounds_toArray, List.set_cons_zero, List.set_cons_succ]
                            rfl
                          refine pure_ (i := 13) (N := some 66) (v := ?_) (a' := ?_) #[true, true, true, true, true, true, true, true, true, true, true, true, true, true, false] rfl rfl (any_of HT_.out (by kernel_rfl)) (fun _ _ _ h => h) (Or.inl ⟨by rfl, ?_⟩) ?_ ?_
                          rotate_left
                          · intro w'
                            go_simp
                            with_reducible rfl
                          rotate_left
                          · simp only [Act.put, List.setIfInBounds_toArray, List.set_cons_zero, List.set_cons_succ, i64_w, i32_w]
                            rfl
                          refine pure_ (i := 14) (N := some 2) (v := ?_) (a' := ?_) #[true, true, true, true, true, true, true, true, true, true, true, true, true, true, true] rfl rfl (any_of HT_.out (by kernel_rfl)) (fun _ _ _ h => h) (Or.inl ⟨by rfl, ?_⟩) ?_ ?_
                          rotate_left
                          · intro w'
                            go_simp
                            with_reducible rfl
                          rotate_left
                          · simp only [Act.put, List.setIfInBounds_toArray, List.set_cons_zero, List.set_cons_succ, i64_w, i32_w]
                            rfl
                          refine done_ (done_of HT_.out (by kernel_rfl)) ?_
                          try go_wp2
                          go_ret
                          exact ⟨by first | rfl | (simp [errW_none, errW_some] <;> rfl) | (simp [*, errW_none, errW_some] <;> rfl), by repeat (first | (with_reducible first | exact HB.out | apply below_alloc | apply pw_below_drewN | apply below_drew1 | refine below_set ?_ GE170.out) | exact HB.out)⟩
                        · rw [if_neg c35] at H
                          exact absurd H (by simp)
                      · rw [if_neg c33] at H
                        exact absurd H (by simp)
end Go.Proofs.YtgdbeiadlgkedaaGreatDoor.PFnHeader
