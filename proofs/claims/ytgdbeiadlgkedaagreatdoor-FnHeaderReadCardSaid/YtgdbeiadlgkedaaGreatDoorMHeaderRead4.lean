/- Contracts and plain laws, several texts in one. -/
import Derived.Test.YtgdbeiadlgkedaaGreatDoorMHeaderRead3
set_option linter.unusedVariables false
set_option linter.unusedSimpArgs false
namespace Go.Proofs.YtgdbeiadlgkedaaGreatDoor.PFnWindowsRead
open Go.RowKit Go.Proofs.YtgdbeiadlgkedaaGreatDoorW.PrintWords Go.Proofs.YtgdbeiadlgkedaaGreatDoorW.PrintLast Go.Proofs.YtgdbeiadlgkedaaGreatDoorW.PrintMore
def spec_codNumber.l0 : Nat → ByteArray → Int → Int → Int → Option (Int × Int)
  | 0, _, _, _, _ => none
  | k + 1, x0, x6, x12, x13 => if x13 < x12 then (if 0 ≤ x13 then (if x13 < (x0.size : Int) then (spec_codNumber.l0 k x0 (Go.bits .or .u64 (IntKind.u64.wrap (x6 * 256)) (IntKind.u64.wrap (bt x0 x13))) x12 (wrap64 (x13 + 1))) else (none)) else (none)) else (some (x6, 0))
def spec_codNumber.f (k : Nat) (a0 : ByteArray) (a1 : Int) : Option (Int × Int) := if (a0.size : Int) < a1 then (some (0, 1)) else (spec_codNumber.l0 k a0 0 a1 0)
theorem spec_codNumber.mono_l : ∀ k, (∀ y0 y1 y2 y3, LeO (spec_codNumber.l0 k y0 y1 y2 y3) (spec_codNumber.l0 (k + 1) y0 y1 y2 y3))
  | 0 => fun _ _ _ _ r h => by simp [spec_codNumber.l0] at h
  | k + 1 => by
    have ih0 := spec_codNumber.mono_l k
    · intro y0 y1 y2 y3
      unfold spec_codNumber.l0
      repeat' first
      | (with_reducible exact ih0 _ _ _ _)
      | (with_reducible exact LeO.refl _)
      | (with_reducible exact LeO.none _)
      | (with_reducible refine LeO.ite ?_ ?_)
      | (with_reducible refine LeO.bind ?_ (fun _ => ?_))
      | exact ih0 _ _ _ _
      | exact LeO.none _
      | refine LeO.ite ?_ ?_
      | refine LeO.bind ?_ (fun _ => ?_)
theorem spec_codNumber.mono : ∀ a0 a1 k, LeO (spec_codNumber.f k a0 a1) (spec_codNumber.f (k + 1) a0 a1) := by
  intro a0 a1 k
  have ih0 := spec_codNumber.mono_l k
  unfold spec_codNumber.f
  repeat' first
      | (with_reducible exact ih0 _ _ _ _)
      | (with_reducible exact LeO.refl _)
      | (with_reducible exact LeO.none _)
      | (with_reducible refine LeO.ite ?_ ?_)
      | (with_reducible refine LeO.bind ?_ (fun _ => ?_))
      | exact ih0 _ _ _ _
      | exact LeO.none _
      | refine LeO.ite ?_ ?_
      | refine LeO.bind ?_ (fun _ => ?_)
set_option maxHeartbeats 8000000 in
set_option maxRecDepth 100000 in
theorem spec_codNumber.calls (k : Nat) (a0 : ByteArray) (a1 : Int) (r1 : Int) (r2 : Int) (w : World) (h : spec_codNumber.f k a0 a1 = some (r1, r2)) :
    Calls Tryz.prog 57 #[.string a0, .int .i64 a1] w fun e w' => e = .returned (.tuple #[.int .u64 r1, .int .i64 r2]) ∧ Drawn0 w w' := by
  have H : (if (a0.size : Int) < a1 then (some (0, 1)) else (spec_codNumber.l0 k a0 0 a1 0)) = some (r1, r2) := h
  clear h
  by_cases c3 : (a0.size : Int) < a1
  · rw [if_pos c3] at H
    have c3b0 : decide ((a0.size : Int) < a1) = true := decide_eq_true c3
    clear c3
    simp only [Option.some.injEq, Prod.mk.injEq] at H
    obtain ⟨rfl, rfl⟩ := H
    go_enter Tryz.func57, Tryz.ntmps57
    go_wp2
    go_ret2
    exact ⟨by first | rfl | (simp; done) | (simp [*]; done), by repeat (first | exact Drawn0.refl _ | apply Drawn0.step)⟩
  · rw [if_neg c3] at H
    have c3b0 : decide ((a0.size : Int) < a1) = false := decide_eq_false c3
    clear c3
    have H' := Aside0.mk H
    clear H
    go_enter Tryz.func57, Tryz.ntmps57
    go_wp2
    go_loopg [6, 13] k (fun kq v6 v13 w' => ∃ (x6_1 : Int) (x13_1 : Int), v6 = .int .u64 x6_1 ∧ v13 = .int .i64 x13_1 ∧ Aside0 (spec_codNumber.l0 kq a0 x6_1 a1 x13_1 = some (r1, r2)) ∧ Aside0 (kq ≤ k) ∧ Drawn0 w w')
    case atStart => exact ⟨(0), (0), (by first | rfl | (simp; done) | (simp [*]; done)), (by first | rfl | (simp; done) | (simp [*]; done)), H', ⟨Nat.le_refl _⟩, by repeat (first | exact Drawn0.refl _ | apply Drawn0.step)⟩
    case round =>
      clear H'
      try clear p2
      try clear c3
      try clear c3b0
      obtain ⟨x6_1, x13_1, rfl, rfl, HA, HK1, ⟨m1, rfl⟩⟩ := hrel
      cases gk with
      | zero => exact absurd HA.out (by simp [spec_codNumber.l0])
      | succ k1 =>
        have H := HA.out
        clear HA
        simp only [spec_codNumber.l0] at H
        by_cases c4 : x13_1 < a1
        · rw [if_pos c4] at H
          have c4b0 : decide (x13_1 < a1) = true := decide_eq_true c4
          clear c4
          by_cases c5 : 0 ≤ x13_1
          · rw [if_pos c5] at H
            have c5b0 : decide (0 ≤ x13_1) = true := decide_eq_true c5
            clear c5
            by_cases c6 : x13_1 < (a0.size : Int)
            · rw [if_pos c6] at H
              have c6b0 : decide (x13_1 < (a0.size : Int)) = true := decide_eq_true c6
              clear c6
              have H' := Aside0.mk H
              clear H
              have p7 : 0 ≤ (x13_1 : Int) := of_decide_eq_true (by first | (with_reducible assumption) | assumption)
              have q7 : x13_1 < (a0.size : Int) := of_decide_eq_true (by first | (with_reducible assumption) | assumption)
              have hx7 := bt_at a0 x13_1
              replace p7 := eq_true p7
              replace q7 := eq_true q7
              go_wp2
              go_roundg k1
              case measure => have := HK1.out; omega
              case rel => exact ⟨(Go.bits .or .u64 (IntKind.u64.wrap (x6_1 * 256)) (IntKind.u64.wrap (bt a0 x13_1))), (wrap64 (x13_1 + 1)), (by first | rfl | (simp; done) | (simp [*]; done)), (by first | rfl | (simp; done) | (simp [*]; done)), H', ⟨by have := HK1.out; omega⟩, by repeat (first | exact Drawn0.refl _ | apply Drawn0.step)⟩
            · rw [if_neg c6] at H
              exact absurd H (by simp)
          · rw [if_neg c5] at H
            exact absurd H (by simp)
        · rw [if_neg c4] at H
          have c4b0 : decide (x13_1 < a1) = false := decide_eq_false c4
          clear c4
          simp only [Option.some.injEq, Prod.mk.injEq] at H
          obtain ⟨rfl, rfl⟩ := H
          go_wp2
          go_ret2
          exact ⟨by first | rfl | (simp; done) | (simp [*]; done), by repeat (first | exact Drawn0.refl _ | apply Drawn0.step)⟩
def spec_CodSpanTime.f (a0 : Int) : Option (Bool) := if a0 ≥ (-9223372036854775) then (some (decide (a0 ≤ 9223372036854775))) else (some false)
set_option maxHeartbeats 8000000 in
set_option maxRecDepth 100000 in
theorem spec_CodSpanTime.calls (a0 : Int) (r : Bool) (w : World) (h : spec_CodSpanTime.f a0 = some r) :
    Calls Tryz.prog 30 #[.int .i64 a0] w fun e w' => e = .returned (.bool r) ∧ Drawn0 w w' := by
  have H : (if a0 ≥ (-9223372036854775) then (some (decide (a0 ≤ 9223372036854775))) else (some false)) = some r := h
  clear h
  by_cases c2 : a0 ≥ (-9223372036854775)
  · rw [if_pos c2] at H
    have c2b0 : decide ((-9223372036854775) ≤ a0) = true := decide_eq_true c2
    clear c2
    obtain rfl := Option.some.inj H
    go_enter Tryz.func30, Tryz.ntmps30
    go_wp2
    go_ret
    exact ⟨by first | rfl | (simp; done) | (simp [*]; done), by repeat (first | exact Drawn0.refl _ | apply Drawn0.step)⟩
  · rw [if_neg c2] at H
    have c2b0 : decide ((-9223372036854775) ≤ a0) = false := decide_eq_false c2
    clear c2
    obtain rfl := Option.some.inj H
    go_enter Tryz.func30, Tryz.ntmps30
    go_wp2
    go_ret
    exact ⟨by first | rfl | (simp; done) | (simp [*]; done), by repeat (first | exact Drawn0.refl _ | apply Drawn0.step)⟩
mutual
def spec_CodVarRead.l0 : Nat → ByteArray → Int → Int → Int → Option (Int × Int × Int)
  | 0, _, _, _, _ => none
  | k + 1, x0, x5, x8, x9 => if x9 < x8 then (if x9 = 9 then (if 0 ≤ x9 then (if x9 < (x0.size : Int) then (if (bt x0 x9) > 1 then (spec_CodVarRead.j1 k x0 x5 x9 x8 x9 true) else (spec_CodVarRead.j1 k x0 x5 x9 x8 x9 (decide (x9 > 9)))) else (none)) else (none)) else (spec_CodVarRead.j1 k x0 x5 x9 x8 x9 (decide (x9 > 9)))) else (some (0, 0, 1))
def spec_CodVarRead.j1 : Nat → ByteArray → Int → Int → Int → Int → Bool → Option (Int × Int × Int)
  | 0, _, _, _, _, _, _ => none
  | k + 1, x0, x5, x6, x8, x9, x23 => if x23 = true then (some (0, 0, 1)) else (if 0 ≤ x6 then (if x6 < (x0.size : Int) then (if 0 ≤ (wrap64 (7 * x6)) then (if (bt x0 x6) < 128 then (some (Go.bits .or .u64 x5 (shl .u64 (IntKind.u64.wrap (Go.bits .and .u8 (bt x0 x6) 127)) (wrap64 (7 * x6))), wrap64 (x6 + 1), 0)) else (spec_CodVarRead.l0 k x0 (Go.bits .or .u64 x5 (shl .u64 (IntKind.u64.wrap (Go.bits .and .u8 (bt x0 x6) 127)) (wrap64 (7 * x6)))) x8 (wrap64 (x9 + 1)))) else (none)) else (none)) else (none))
end
def spec_CodVarRead.f (k : Nat) (a0 : ByteArray) : Option (Int × Int × Int) := spec_CodVarRead.l0 k a0 0 (a0.size : Int) 0
theorem spec_CodVarRead.mono_l : ∀ k, (∀ y0 y1 y2 y3, LeO (spec_CodVarRead.l0 k y0 y1 y2 y3) (spec_CodVarRead.l0 (k + 1) y0 y1 y2 y3)) ∧ (∀ y0 y1 y2 y3 y4 y5, LeO (spec_CodVarRead.j1 k y0 y1 y2 y3 y4 y5) (spec_CodVarRead.j1 (k + 1) y0 y1 y2 y3 y4 y5))
  | 0 => ⟨fun _ _ _ _ r h => by simp [spec_CodVarRead.l0] at h, fun _ _ _ _ _ _ r h => by simp [spec_CodVarRead.j1] at h⟩
  | k + 1 => by
    obtain ⟨ih0, ih1⟩ := spec_CodVarRead.mono_l k
    refine ⟨?_, ?_⟩
    · intro y0 y1 y2 y3
      unfold spec_CodVarRead.l0
      repeat' first
      | (with_reducible exact ih0 _ _ _ _)
      | (with_reducible exact ih1 _ _ _ _ _ _)
      | (with_reducible exact LeO.refl _)
      | (with_reducible exact LeO.none _)
      | (with_reducible refine LeO.ite ?_ ?_)
      | (with_reducible refine LeO.bind ?_ (fun _ => ?_))
      | exact ih0 _ _ _ _
      | exact ih1 _ _ _ _ _ _
      | exact LeO.none _
      | refine LeO.ite ?_ ?_
      | refine LeO.bind ?_ (fun _ => ?_)
    · intro y0 y1 y2 y3 y4 y5
      unfold spec_CodVarRead.j1
      repeat' first
      | (with_reducible exact ih0 _ _ _ _)
      | (with_reducible exact ih1 _ _ _ _ _ _)
      | (with_reducible exact LeO.refl _)
      | (with_reducible exact LeO.none _)
      | (with_reducible refine LeO.ite ?_ ?_)
      | (with_reducible refine LeO.bind ?_ (fun _ => ?_))
      | exact ih0 _ _ _ _
      | exact ih1 _ _ _ _ _ _
      | exact LeO.none _
      | refine LeO.ite ?_ ?_
      | refine LeO.bind ?_ (fun _ => ?_)
theorem spec_CodVarRead.mono : ∀ a0 k, LeO (spec_CodVarRead.f k a0) (spec_CodVarRead.f (k + 1) a0) := by
  intro a0 k
  obtain ⟨ih0, ih1⟩ := spec_CodVarRead.mono_l k
  unfold spec_CodVarRead.f
  repeat' first
      | (with_reducible exact ih0 _ _ _ _)
      | (with_reducible exact ih1 _ _ _ _ _ _)
      | (with_reducible exact LeO.refl _)
      | (with_reducible exact LeO.none _)
      | (with_reducible refine LeO.ite ?_ ?_)
      | (with_reducible refine LeO.bind ?_ (fun _ => ?_))
      | exact ih0 _ _ _ _
      | exact ih1 _ _ _ _ _ _
      | exact LeO.none _
      | refine LeO.ite ?_ ?_
      | refine LeO.bind ?_ (fun _ => ?_)
set_option maxHeartbeats 8000000 in
set_option maxRecDepth 100000 in
theorem spec_CodVarRead.calls (k : Nat) (a0 : ByteArray) (r1 : Int) (r2 : Int) (r3 : Int) (w : World) (h : spec_CodVarRead.f k a0 = some (r1, r2, r3)) :
    Calls Tryz.prog 60 #[.string a0] w fun e w' => e = .returned (.tuple #[.int .u64 r1, .int .i64 r2, .int .i64 r3]) ∧ Drawn0 w w' := by
  have H : (spec_CodVarRead.l0 k a0 0 (a0.size : Int) 0) = some (r1, r2, r3) := h
  clear h
  have H' := Aside0.mk H
  clear H
  go_enter Tryz.func60, Tryz.ntmps60
  go_wp2
  go_loopg [5, 9] k (fun kq v5 v9 w' => ∃ (x5_1 : Int) (x9_1 : Int), v5 = .int .u64 x5_1 ∧ v9 = .int .i64 x9_1 ∧ Aside0 (spec_CodVarRead.l0 kq a0 x5_1 (a0.size : Int) x9_1 = some (r1, r2, r3)) ∧ Aside0 (kq ≤ k) ∧ Drawn0 w w')
  case atStart => exact ⟨(0), (0), (by first | rfl | (simp; done) | (simp [*]; done)), (by first | rfl | (simp; done) | (simp [*]; done)), H', ⟨Nat.le_refl _⟩, by repeat (first | exact Drawn0.refl _ | apply Drawn0.step)⟩
  case round =>
    clear H'
    obtain ⟨x5_1, x9_1, rfl, rfl, HA, HK1, ⟨m1, rfl⟩⟩ := hrel
    cases gk with
    | zero => exact absurd HA.out (by simp [spec_CodVarRead.l0])
    | succ k1 =>
      have H := HA.out
      clear HA
      simp only [spec_CodVarRead.l0] at H
      by_cases c2 : x9_1 < (a0.size : Int)
      · rw [if_pos c2] at H
        have c2b0 : decide (x9_1 < (a0.size : Int)) = true := decide_eq_true c2
        clear c2
        have HC3 := Aside0.mk H
        clear H
        go_upto_region 5 with (fail)
        go_cut [23] (fun v23 wc => ∃ (kq : Nat) (x23_2 : Bool), v23 = .bool x23_2 ∧ Aside0 (spec_CodVarRead.j1 kq a0 x5_1 x9_1 (a0.size : Int) x9_1 x23_2 = some (r1, r2, r3)) ∧ Aside0 (kq ≤ k1) ∧ Drawn0 w wc)
        case first =>
          have H := HC3.out
          clear HC3
          by_cases c4 : x9_1 = 9
          · rw [if_pos c4] at H
            have c4b0 : (x9_1 == 9) = true := beq_iff_eq.mpr c4
            have c4b1 : (x9_1 != 9) = false := bne_eq_false_iff_eq.mpr c4
            clear c4
            (first | rw [c4b0] | (simp only [i64_w, i32_w]; rw [c4b0]) | skip)
            by_cases c5 : 0 ≤ x9_1
            · rw [if_pos c5] at H
              have c5b0 : decide (0 ≤ x9_1) = true := decide_eq_true c5
              clear c5
              by_cases c6 : x9_1 < (a0.size : Int)
              · rw [if_pos c6] at H
                have c6b0 : decide (x9_1 < (a0.size : Int)) = true := decide_eq_true c6
                clear c6
                by_cases c8 : (bt a0 x9_1) > 1
                · rw [if_pos c8] at H
                  have c8b0 : decide (1 < (bt a0 x9_1)) = true := decide_eq_true c8
                  clear c8
                  have H' := Aside0.mk H
                  clear H
                  have p7 : 0 ≤ (x9_1 : Int) := of_decide_eq_true (by first | (with_reducible assumption) | assumption)
                  have q7 : x9_1 < (a0.size : Int) := of_decide_eq_true (by first | (with_reducible assumption) | assumption)
                  have hx7 := bt_at a0 x9_1
                  replace p7 := eq_true p7
                  replace q7 := eq_true q7
                  go_wp2
                  go_meet
                  case rel => exact ⟨_, (true), (by first | rfl | (simp; done) | (simp [*]; done)), H', ⟨by have := HK1.out; first | omega | exact Nat.le_refl _⟩, by repeat (first | exact Drawn0.refl _ | apply Drawn0.step)⟩
                · rw [if_neg c8] at H
                  have c8b0 : decide (1 < (bt a0 x9_1)) = false := decide_eq_false c8
                  clear c8
                  have H' := Aside0.mk H
                  clear H
                  have p7 : 0 ≤ (x9_1 : Int) := of_decide_eq_true (by first | (with_reducible assumption) | assumption)
                  have q7 : x9_1 < (a0.size : Int) := of_decide_eq_true (by first | (with_reducible assumption) | assumption)
                  have hx7 := bt_at a0 x9_1
                  replace p7 := eq_true p7
                  replace q7 := eq_true q7
                  go_wp2
                  go_meet
                  case rel => exact ⟨_, (decide (x9_1 > 9)), (by first | rfl | (simp; done) | (simp [*]; done)), H', ⟨by have := HK1.out; first | omega | exact Nat.le_refl _⟩, by repeat (first | exact Drawn0.refl _ | apply Drawn0.step)⟩
              · rw [if_neg c6] at H
                exact absurd H (by simp)
            · rw [if_neg c5] at H
              exact absurd H (by simp)
          · rw [if_neg c4] at H
            have c4b0 : (x9_1 == 9) = false := beq_eq_false_iff_ne.mpr c4
            have c4b1 : (x9_1 != 9) = true := bne_iff_ne.mpr c4
            (first | rw [c4b0] | (simp only [i64_w, i32_w]; rw [c4b0]) | skip)
            have H' := Aside0.mk H
            clear H
            go_wp2
            go_meet
            case rel => exact ⟨_, (decide (x9_1 > 9)), (by first | rfl | (simp; done) | (simp [*]; done)), H', ⟨by have := HK1.out; first | omega | exact Nat.le_refl _⟩, by repeat (first | exact Drawn0.refl _ | apply Drawn0.step)⟩
        case rest =>
          clear HC3
          try clear c2
          try clear c2b0
          try clear p2
          try clear c4
          try clear c4b0
          try clear c4b1
          try clear c5
          try clear c5b0
          try clear c6
          try clear c6b0
          try clear p7
          try clear q7
          try clear hx7
          try clear c8
          try clear c8b0
          try clear p7
          try clear q7
          obtain ⟨kq, x23_2, rfl, HA, HJ2, ⟨mc2, rfl⟩⟩ := hcut
          cases kq with
          | zero => exact absurd HA.out (by simp [spec_CodVarRead.j1])
          | succ kj2 =>
            have H := HA.out
            clear HA
            simp only [spec_CodVarRead.j1] at H
            by_cases c9 : x23_2 = true
            · subst c9
              have H1 : (some (0, 0, 1)) = some (r1, r2, r3) := by rw [if_pos rfl] at H; exact H
              clear H
              have H := H1
              clear H1
              simp only [Option.some.injEq, Prod.mk.injEq] at H
              obtain ⟨rfl, rfl, rfl⟩ := H
              go_wp2
              go_ret3
              exact ⟨by first | rfl | (simp; done) | (simp [*]; done), by repeat (first | exact Drawn0.refl _ | apply Drawn0.step)⟩
            · replace c9 := Bool.eq_false_iff.mpr c9
              subst c9
              have H1 : (if 0 ≤ x9_1 then (if x9_1 < (a0.size : Int) then (if 0 ≤ (wrap64 (7 * x9_1)) then (if (bt a0 x9_1) < 128 then (some (Go.bits .or .u64 x5_1 (shl .u64 (IntKind.u64.wrap (Go.bits .and .u8 (bt a0 x9_1) 127)) (wrap64 (7 * x9_1))), wrap64 (x9_1 + 1), 0)) else (spec_CodVarRead.l0 kj2 a0 (Go.bits .or .u64 x5_1 (shl .u64 (IntKind.u64.wrap (Go.bits .and .u8 (bt a0 x9_1) 127)) (wrap64 (7 * x9_1)))) (a0.size : Int) (wrap64 (x9_1 + 1)))) else (none)) else (none)) else (none)) = some (r1, r2, r3) := by rw [if_neg (show ¬ (false = true) by decide)] at H; exact H
              clear H
              have H := H1
              clear H1
              by_cases c10 : 0 ≤ x9_1
              · rw [if_pos c10] at H
                have c10b0 : decide (0 ≤ x9_1) = true := decide_eq_true c10
                clear c10
                by_cases c11 : x9_1 < (a0.size : Int)
                · rw [if_pos c11] at H
                  have c11b0 : decide (x9_1 < (a0.size : Int)) = true := decide_eq_true c11
                  clear c11
                  obtain ⟨ji13, hji13⟩ : ∃ j_ : Int, (wrap64 (7 * x9_1)) = j_ := ⟨_, rfl⟩
                  replace H : (if 0 ≤ (ji13) then (if (bt a0 x9_1) < 128 then (some (Go.bits .or .u64 x5_1 (shl .u64 (IntKind.u64.wrap (Go.bits .and .u8 (bt a0 x9_1) 127)) (ji13)), wrap64 (x9_1 + 1), 0)) else (spec_CodVarRead.l0 kj2 a0 (Go.bits .or .u64 x5_1 (shl .u64 (IntKind.u64.wrap (Go.bits .and .u8 (bt a0 x9_1) 127)) (ji13))) (a0.size : Int) (wrap64 (x9_1 + 1)))) else (none)) = some (r1, r2, r3) := by first | (rw [hji13] at H; exact H) | (simp only [hji13] at H ⊢; exact H)
                  have hji13w : (IntKind.i64.wrap (7 * x9_1)) = ji13 := (i64_w _).trans hji13
                  by_cases c14 : 0 ≤ (ji13)
                  · rw [if_pos c14] at H
                    have c14b0 := eq_true c14
                    have c14b1 : decide (0 ≤ (ji13)) = true := decide_eq_true c14
                    clear c14
                    obtain ⟨ji15, hji15⟩ : ∃ j_ : Int, (shl .u64 (IntKind.u64.wrap (Go.bits .and .u8 (bt a0 x9_1) 127)) (ji13)) = j_ := ⟨_, rfl⟩
                    replace H : (if (bt a0 x9_1) < 128 then (some (Go.bits .or .u64 x5_1 (ji15), wrap64 (x9_1 + 1), 0)) else (spec_CodVarRead.l0 kj2 a0 (Go.bits .or .u64 x5_1 (ji15)) (a0.size : Int) (wrap64 (x9_1 + 1)))) = some (r1, r2, r3) := by first | (rw [hji15] at H; exact H) | (simp only [hji15] at H ⊢; exact H)
                    have hji15_ : (IntKind.u64.wrap ((IntKind.u64.wrap (Go.bits .and .u8 (bt a0 x9_1) 127)) * 2 ^ min (ji13).toNat 64)) = ji15 := hji15
                    have hji15z : (ji13) ≤ 64 → (IntKind.u64.wrap ((IntKind.u64.wrap (Go.bits .and .u8 (bt a0 x9_1) 127)) * 2 ^ (ji13).toNat)) = ji15 := shl_small hji15
                    by_cases c17 : (bt a0 x9_1) < 128
                    · rw [if_pos c17] at H
                      have c17b0 : decide ((bt a0 x9_1) < 128) = true := decide_eq_true c17
                      clear c17
                      simp only [Option.some.injEq, Prod.mk.injEq] at H
                      obtain ⟨rfl, rfl, rfl⟩ := H
                      have p12 : 0 ≤ (x9_1 : Int) := of_decide_eq_true (by first | (with_reducible assumption) | assumption)
                      have q12 : x9_1 < (a0.size : Int) := of_decide_eq_true (by first | (with_reducible assumption) | assumption)
                      have hx12 := bt_at a0 x9_1
                      replace p12 := eq_true p12
                      replace q12 := eq_true q12
                      have p16 : 0 ≤ (x9_1 : Int) := of_decide_eq_true (by first | (with_reducible assumption) | assumption)
                      have q16 : x9_1 < (a0.size : Int) := of_decide_eq_true (by first | (with_reducible assumption) | assumption)
                      have hx16 := bt_at a0 x9_1
                      replace p16 := eq_true p16
                      replace q16 := eq_true q16
                      go_wp2
                      go_ret3
                      exact ⟨by first | rfl | (simp; done) | (simp only [← hji13, ← hji15] <;> (first | rfl | simp)) | (simp [*]; done), by repeat (first | exact Drawn0.refl _ | apply Drawn0.step)⟩
                    · rw [if_neg c17] at H
                      have c17b0 : decide ((bt a0 x9_1) < 128) = false := decide_eq_false c17
                      clear c17
                      have H' := Aside0.mk H
                      clear H
                      have p12 : 0 ≤ (x9_1 : Int) := of_decide_eq_true (by first | (with_reducible assumption) | assumption)
                      have q12 : x9_1 < (a0.size : Int) := of_decide_eq_true (by first | (with_reducible assumption) | assumption)
                      have hx12 := bt_at a0 x9_1
                      replace p12 := eq_true p12
                      replace q12 := eq_true q12
                      have p16 : 0 ≤ (x9_1 : Int) := of_decide_eq_true (by first | (with_reducible assumption) | assumption)
                      have q16 : x9_1 < (a0.size : Int) := of_decide_eq_true (by first | (with_reducible assumption) | assumption)
                      have hx16 := bt_at a0 x9_1
                      replace p16 := eq_true p16
                      replace q16 := eq_true q16
                      go_wp2
                      go_roundg kj2
                      case measure => have := HK1.out; have := HJ2.out; omega
                      case rel => exact ⟨(Go.bits .or .u64 x5_1 (ji15)), (wrap64 (x9_1 + 1)), (by first | rfl | (simp; done) | (simp only [← hji15] <;> (first | rfl | simp)) | (simp [*]; done)), (by first | rfl | (simp; done) | (simp [*]; done)), H', ⟨by have := HK1.out; have := HJ2.out; omega⟩, by repeat (first | exact Drawn0.refl _ | apply Drawn0.step)⟩
                  · rw [if_neg c14] at H
                    exact absurd H (by simp)
                · rw [if_neg c11] at H
                  exact absurd H (by simp)
              · rw [if_neg c10] at H
                exact absurd H (by simp)
      · rw [if_neg c2] at H
        have c2b0 : decide (x9_1 < (a0.size : Int)) = false := decide_eq_false c2
        clear c2
        simp only [Option.some.injEq, Prod.mk.injEq] at H
        obtain ⟨rfl, rfl, rfl⟩ := H
        go_wp2
        go_ret3
        exact ⟨by first | rfl | (simp; done) | (simp [*]; done), by repeat (first | exact Drawn0.refl _ | apply Drawn0.step)⟩
def spec_CodSpanRead.f (k : Nat) (a0 : Int) (a1 : ByteArray) : Option (Bool × Int × Int × Int × Int) := if a0 = 0 then (some (true, 0, 0, 0, 0)) else ((spec_codNumber.f k a1 8).bind fun bt133 => (if bt133.2 = 0 then (if 8 ≤ (a1.size : Int) then ((spec_CodVarRead.f k (a1.extract 8 a1.size)).bind fun bt135 => (if bt135.2.2 = 0 then ((spec_CodSpanTime.f (wrap64 (Go.bits .xor .u64 bt133.1 9223372036854775808))).bind fun t138 => (if t138 = true then (if bt135.1 > 4611686018427387904 then (some (false, 0, 0, 0, 2)) else (some (false, mx (wrap64 ((wrap64 (Go.bits .xor .u64 bt133.1 9223372036854775808)) - (wrap64 (bt135.1)))) (-9223372036854775), wrap64 (Go.bits .xor .u64 bt133.1 9223372036854775808), wrap64 (8 + bt135.2.1), 0))) else (some (false, 0, 0, 0, 2)))) else (some (false, 0, 0, 0, bt135.2.2)))) else (none)) else (some (false, 0, 0, 0, bt133.2))))
theorem spec_CodSpanRead.mono : ∀ a0 a1 k, LeO (spec_CodSpanRead.f k a0 a1) (spec_CodSpanRead.f (k + 1) a0 a1) := by
  intro a0 a1 k
  unfold spec_CodSpanRead.f
  repeat' first
      | (with_reducible exact spec_CodVarRead.mono _ _)
      | (with_reducible exact spec_codNumber.mono _ _ _)
      | (with_reducible exact LeO.refl _)
      | (with_reducible exact LeO.none _)
      | (with_reducible refine LeO.ite ?_ ?_)
      | (with_reducible refine LeO.bind ?_ (fun _ => ?_))
      | exact spec_CodVarRead.mono _ _
      | exact spec_codNumber.mono _ _ _
      | exact LeO.none _
      | refine LeO.ite ?_ ?_
      | refine LeO.bind ?_ (fun _ => ?_)
set_option maxHeartbeats 8000000 in
set_option maxRecDepth 100000 in
theorem spec_CodSpanRead.calls (k : Nat) (a0 : Int) (a1 : ByteArray) (r1 : Bool) (r2 : Int) (r3 : Int) (r4 : Int) (r5 : Int) (w : World) (h : spec_CodSpanRead.f k a0 a1 = some (r1, r2, r3, r4, r5)) :
    Calls Tryz.prog 58 #[.int .i64 a0, .string a1] w fun e w' => e = .returned (.tuple #[.agg #[.bool r1, .int .i64 r2, .int .i64 r3], .int .i64 r4, .int .i64 r5]) ∧ Below w.heap.size w w' := by
  have hu32 := Tryz.underlying32
  have HB := Aside0.mk (Below.refl w.heap.size w)
  have H : (if a0 = 0 then (some (true, 0, 0, 0, 0)) else ((spec_codNumber.f k a1 8).bind fun bt133 => (if bt133.2 = 0 then (if 8 ≤ (a1.size : Int) then ((spec_CodVarRead.f k (a1.extract 8 a1.size)).bind fun bt135 => (if bt135.2.2 = 0 then ((spec_CodSpanTime.f (wrap64 (Go.bits .xor .u64 bt133.1 9223372036854775808))).bind fun t138 => (if t138 = true then (if bt135.1 > 4611686018427387904 then (some (false, 0, 0, 0, 2)) else (some (false, mx (wrap64 ((wrap64 (Go.bits .xor .u64 bt133.1 9223372036854775808)) - (wrap64 (bt135.1)))) (-9223372036854775), wrap64 (Go.bits .xor .u64 bt133.1 9223372036854775808), wrap64 (8 + bt135.2.1), 0))) else (some (false, 0, 0, 0, 2)))) else (some (false, 0, 0, 0, bt135.2.2)))) else (none)) else (some (false, 0, 0, 0, bt133.2))))) = some (r1, r2, r3, r4, r5) := h
  clear h
  by_cases c3 : a0 = 0
  · rw [if_pos c3] at H
    have c3b0 : (a0 == 0) = true := beq_iff_eq.mpr c3
    have c3b1 : (a0 != 0) = false := bne_eq_false_iff_eq.mpr c3
    clear c3
    simp only [Option.some.injEq, Prod.mk.injEq] at H
    obtain ⟨rfl, rfl, rfl, rfl, rfl⟩ := H
    go_enter Tryz.func58, Tryz.ntmps58
    go_wp2_with (first | ((with_reducible refine gate_dst (N := 4) rfl ?_); refine box_event ?hg (N := 4) ?hd (cs := #[.bool false, .int .i64 0, .int .i64 0]) (t := 32) ?hr ?_; (case hd => rfl); (case hg => rfl); (case hr => first | (go_simp; done) | (go_simp; rfl)); intro gb132 hg w4 hbox hb; have n0_ := Aside0.mk (below_step (by repeat (first | (with_reducible first | exact HB.out | apply below_alloc | apply pw_below_drewN | apply below_drew1) | exact HB.out)) hb); have n1_ := Aside0.mk (hbox); have n2_ := Aside0.mk ((by rw [hg]; exact (below_size (by repeat (first | (with_reducible first | exact HB.out | apply below_alloc | apply pw_below_drewN | apply below_drew1) | exact HB.out))) : w.heap.size ≤ gb132)); have n3_ := Aside0.mk ((by rw [hg]; exact (below_size (by repeat (first | (with_reducible first | exact HB.out | apply below_alloc | apply pw_below_drewN | apply below_drew1) | exact HB.out))) : w.heap.size ≤ gb132)); clear HB; have HB := n0_; have BK132 := n1_; have GW132 := n2_; have GE132 := n3_; clear n0_ n1_ n2_ n3_; clear hb hbox hg; have hcz5_0 : w4.cell? ⟨gb132, 0, none⟩ = some (.bool false) := (blk_cell BK132.out 0).trans rfl; have hcz5_1 : w4.cell? ⟨gb132, 1, none⟩ = some (.int .i64 0) := (blk_cell BK132.out 1).trans rfl; have hcz5_2 : w4.cell? ⟨gb132, 2, none⟩ = some (.int .i64 0) := (blk_cell BK132.out 2).trans rfl; have hfz5_0 := blk_frozen BK132.out 0; have hfz5_1 := blk_frozen BK132.out 1; have hfz5_2 := blk_frozen BK132.out 2))
    refine bodyPost_ret (results_ctt rfl _ _ gb132 32 #[.bool true, .int .i64 0, .int .i64 0] (0, 0) _ rfl (by (with_reducible repeat (first | refine blk_drewN ?_ _ | refine blk_drew ?_ | refine blk_alloc ?_ _)); refine blk_put (cs := #[.bool true, .int .i64 0, .int .i64 0]) ?_ 2 _ rfl; (with_reducible repeat (first | refine blk_drewN ?_ _ | refine blk_drew ?_ | refine blk_alloc ?_ _)); refine blk_put (cs := #[.bool true, .int .i64 0, .int .i64 0]) ?_ 1 _ rfl; (with_reducible repeat (first | refine blk_drewN ?_ _ | refine blk_drew ?_ | refine blk_alloc ?_ _)); refine blk_put (cs := #[.bool false, .int .i64 0, .int .i64 0]) ?_ 0 _ rfl; (with_reducible repeat (first | refine blk_drewN ?_ _ | refine blk_drew ?_ | refine blk_alloc ?_ _)); exact BK132.out) Tryz.underlying32 rfl (by kernel_rfl)) rfl ?_
    exact ⟨by first | rfl | (simp [errW_none, errW_some] <;> rfl) | (simp [*, errW_none, errW_some] <;> rfl), by repeat (first | (with_reducible first | exact HB.out | apply below_alloc | apply pw_below_drewN | apply below_drew1 | refine below_set ?_ GE132.out) | exact HB.out)⟩
  · rw [if_neg c3] at H
    have c3b0 : (a0 == 0) = false := beq_eq_false_iff_ne.mpr c3
    have c3b1 : (a0 != 0) = true := bne_iff_ne.mpr c3
    replace H := Option.bind_eq_some_iff.mp H
    obtain ⟨⟨t133, t134⟩, A60, H⟩ := H
    replace H : (if t134 = 0 then (if 8 ≤ (a1.size : Int) then ((spec_CodVarRead.f k (a1.extract 8 a1.size)).bind fun bt135 => (if bt135.2.2 = 0 then ((spec_CodSpanTime.f (wrap64 (Go.bits .xor .u64 t133 9223372036854775808))).bind fun t138 => (if t138 = true then (if bt135.1 > 4611686018427387904 then (some (false, 0, 0, 0, 2)) else (some (false, mx (wrap64 ((wrap64 (Go.bits .xor .u64 t133 9223372036854775808)) - (wrap64 (bt135.1)))) (-9223372036854775), wrap64 (Go.bits .xor .u64 t133 9223372036854775808), wrap64 (8 + bt135.2.1), 0))) else (some (false, 0, 0, 0, 2)))) else (some (false, 0, 0, 0, bt135.2.2)))) else (none)) else (some (false, 0, 0, 0, t134))) = some (r1, r2, r3, r4, r5) := H
    have A6 := Aside0.mk A60
    clear A60
    by_cases c7 : t134 = 0
    · rw [if_pos c7] at H
      have c7b0 : (t134 == 0) = true := beq_iff_eq.mpr c7
      have c7b1 : (t134 != 0) = false := bne_eq_false_iff_eq.mpr c7
      clear c7
      by_cases c8 : 8 ≤ (a1.size : Int)
      · rw [if_pos c8] at H
        have c8b0 := eq_true c8
        have c8b1 : decide (8 ≤ (a1.size : Int)) = true := decide_eq_true c8
        clear c8
        replace H := Option.bind_eq_some_iff.mp H
        obtain ⟨⟨t135, t136, t137⟩, A90, H⟩ := H
        replace H : (if t137 = 0 then ((spec_CodSpanTime.f (wrap64 (Go.bits .xor .u64 t133 9223372036854775808))).bind fun t138 => (if t138 = true then (if t135 > 4611686018427387904 then (some (false, 0, 0, 0, 2)) else (some (false, mx (wrap64 ((wrap64 (Go.bits .xor .u64 t133 9223372036854775808)) - (wrap64 (t135)))) (-9223372036854775), wrap64 (Go.bits .xor .u64 t133 9223372036854775808), wrap64 (8 + t136), 0))) else (some (false, 0, 0, 0, 2)))) else (some (false, 0, 0, 0, t137))) = some (r1, r2, r3, r4, r5) := H
        have A9 := Aside0.mk A90
        clear A90
        by_cases c10 : t137 = 0
        · rw [if_pos c10] at H
          have c10b0 : (t137 == 0) = true := beq_iff_eq.mpr c10
          have c10b1 : (t137 != 0) = false := bne_eq_false_iff_eq.mpr c10
          clear c10
          replace H := Option.bind_eq_some_iff.mp H
          obtain ⟨t138, A110, H⟩ := H
          replace H : (if t138 = true then (if t135 > 4611686018427387904 then (some (false, 0, 0, 0, 2)) else (some (false, mx (wrap64 ((wrap64 (Go.bits .xor .u64 t133 9223372036854775808)) - (wrap64 (t135)))) (-9223372036854775), wrap64 (Go.bits .xor .u64 t133 9223372036854775808), wrap64 (8 + t136), 0))) else (some (false, 0, 0, 0, 2))) = some (r1, r2, r3, r4, r5) := H
          have A11 := Aside0.mk A110
          clear A110
          by_cases c12 : t138 = true
          · subst c12
            have H1 : (if t135 > 4611686018427387904 then (some (false, 0, 0, 0, 2)) else (some (false, mx (wrap64 ((wrap64 (Go.bits .xor .u64 t133 9223372036854775808)) - (wrap64 (t135)))) (-9223372036854775), wrap64 (Go.bits .xor .u64 t133 9223372036854775808), wrap64 (8 + t136), 0))) = some (r1, r2, r3, r4, r5) := by rw [if_pos rfl] at H; exact H
            clear H
            have H := H1
            clear H1
            by_cases c13 : t135 > 4611686018427387904
            · rw [if_pos c13] at H
              have c13b0 : decide (4611686018427387904 < t135) = true := decide_eq_true c13
              clear c13
              simp only [Option.some.injEq, Prod.mk.injEq] at H
              obtain ⟨rfl, rfl, rfl, rfl, rfl⟩ := H
              go_enter Tryz.func58, Tryz.ntmps58
              go_wp2_with (first | ((with_reducible refine gate_dst (N := 4) rfl ?_); refine box_event ?hg (N := 4) ?hd (cs := #[.bool false, .int .i64 0, .int .i64 0]) (t := 32) ?hr ?_; (case hd => rfl); (case hg => rfl); (case hr => first | (go_simp; done) | (go_simp; rfl)); intro gb132 hg w14 hbox hb; have n0_ := Aside0.mk (below_step (by repeat (first | (with_reducible first | exact HB.out | apply below_alloc | apply pw_below_drewN | apply below_drew1) | exact HB.out)) hb); have n1_ := Aside0.mk (hbox); have n2_ := Aside0.mk ((by rw [hg]; exact (below_size (by repeat (first | (with_reducible first | exact HB.out | apply below_alloc | apply pw_below_drewN | apply below_drew1) | exact HB.out))) : w.heap.size ≤ gb132)); have n3_ := Aside0.mk ((by rw [hg]; exact (below_size (by repeat (first | (with_reducible first | exact HB.out | apply below_alloc | apply pw_below_drewN | apply below_drew1) | exact HB.out))) : w.heap.size ≤ gb132)); clear HB; have HB := n0_; have BK132 := n1_; have GW132 := n2_; have GE132 := n3_; clear n0_ n1_ n2_ n3_; clear hb hbox hg) | ((with_reducible refine gate_callee (f := 57) rfl ?_); refine goesL_ (some 17) rfl rfl Tryz.func57 (by kernel_rfl) rfl #[.string a1, .int .i64 8] rfl (by (try simp only [List.map_toArray, List.map_cons, List.map_nil]); first | done | rfl | (simp only [List.length_drop, List.length_take]; rfl)) ?_; (with_reducible refine (spec_codNumber.calls k a1 8 t133 t134 _ A6.out).mono ?_); rintro e w' ⟨rfl, ⟨nd, rfl⟩⟩; refine ⟨_, rfl, ?_⟩; (try (rw [drewN_self w14]; generalize hq_ : World.drewN w14 _ = w14; have n0_ : Aside0 (w14.heap[gb132]? = some (.cells #[.bool false, .int .i64 0, .int .i64 0] 32 (0, 0))) := ⟨by rw [← hq_]; exact (by (with_reducible repeat (first | refine blk_drewN ?_ _ | refine blk_drew ?_ | refine blk_alloc ?_ _)); exact BK132.out)⟩; have n1_ : Aside0 (Below w.heap.size w w14) := ⟨by rw [← hq_]; exact (by repeat (first | (with_reducible first | exact HB.out | apply below_alloc | apply pw_below_drewN | apply below_drew1 | refine below_set ?_ GE132.out) | exact HB.out))⟩; clear BK132 HB hq_; have BK132 := n0_; have HB := n1_; clear n0_ n1_))) | ((with_reducible refine gate_callee (f := 60) rfl ?_); refine goesL_ (some 30) rfl rfl Tryz.func60 (by kernel_rfl) rfl #[.string (a1.extract 8 a1.size)] rfl (by (try simp only [List.map_toArray, List.map_cons, List.map_nil]); first | done | rfl | (simp only [List.length_drop, List.length_take]; rfl)) ?_; (with_reducible refine (spec_CodVarRead.calls k (a1.extract 8 a1.size) t135 t136 t137 _ A9.out).mono ?_); rintro e w' ⟨rfl, ⟨nd, rfl⟩⟩; refine ⟨_, rfl, ?_⟩; (try (rw [drewN_self w14]; generalize hq_ : World.drewN w14 _ = w14; have n0_ : Aside0 (w14.heap[gb132]? = some (.cells #[.bool false, .int .i64 0, .int .i64 0] 32 (0, 0))) := ⟨by rw [← hq_]; exact (by (with_reducible repeat (first | refine blk_drewN ?_ _ | refine blk_drew ?_ | refine blk_alloc ?_ _)); exact BK132.out)⟩; have n1_ : Aside0 (Below w.heap.size w w14) := ⟨by rw [← hq_]; exact (by repeat (first | (with_reducible first | exact HB.out | apply below_alloc | apply pw_below_drewN | apply below_drew1 | refine below_set ?_ GE132.out) | exact HB.out))⟩; clear BK132 HB hq_; have BK132 := n0_; have HB := n1_; clear n0_ n1_))) | ((with_reducible refine gate_callee (f := 30) rfl ?_); refine goesL_ (some 41) rfl rfl Tryz.func30 (by kernel_rfl) rfl #[.int .i64 (wrap64 (Go.bits .xor .u64 t133 9223372036854775808))] rfl (by (try simp only [List.map_toArray, List.map_cons, List.map_nil]); first | done | rfl | (simp only [List.length_drop, List.length_take]; rfl)) ?_; (with_reducible refine (spec_CodSpanTime.calls (wrap64 (Go.bits .xor .u64 t133 9223372036854775808)) true _ A11.out).mono ?_); rintro e w' ⟨rfl, ⟨nd, rfl⟩⟩; refine ⟨_, rfl, ?_⟩; (try (rw [drewN_self w14]; generalize hq_ : World.drewN w14 _ = w14; have n0_ : Aside0 (w14.heap[gb132]? = some (.cells #[.bool false, .int .i64 0, .int .i64 0] 32 (0, 0))) := ⟨by rw [← hq_]; exact (by (with_reducible repeat (first | refine blk_drewN ?_ _ | refine blk_drew ?_ | refine blk_alloc ?_ _)); exact BK132.out)⟩; have n1_ : Aside0 (Below w.heap.size w w14) := ⟨by rw [← hq_]; exact (by repeat (first | (with_reducible first | exact HB.out | apply below_alloc | apply pw_below_drewN | apply below_drew1 | refine below_set ?_ GE132.out) | exact HB.out))⟩; clear BK132 HB hq_; have BK132 := n0_; have HB := n1_; clear n0_ n1_)); have hcz15_0 : w14.cell? ⟨gb132, 0, none⟩ = some (.bool false) := (blk_cell BK132.out 0).trans rfl; have hcz15_1 : w14.cell? ⟨gb132, 1, none⟩ = some (.int .i64 0) := (blk_cell BK132.out 1).trans rfl; have hcz15_2 : w14.cell? ⟨gb132, 2, none⟩ = some (.int .i64 0) := (blk_cell BK132.out 2).trans rfl; have hfz15_0 := blk_frozen BK132.out 0; have hfz15_1 := blk_frozen BK132.out 1; have hfz15_2 := blk_frozen BK132.out 2))
              refine bodyPost_ret (results_ctt rfl _ _ gb132 32 #[.bool false, .int .i64 0, .int .i64 0] (0, 0) _ rfl (by (with_reducible repeat (first | refine blk_drewN ?_ _ | refine blk_drew ?_ | refine blk_alloc ?_ _)); refine blk_put (cs := #[.bool false, .int .i64 0, .int .i64 0]) ?_ 2 _ rfl; (with_reducible repeat (first | refine blk_drewN ?_ _ | refine blk_drew ?_ | refine blk_alloc ?_ _)); refine blk_put (cs := #[.bool false, .int .i64 0, .int .i64 0]) ?_ 1 _ rfl; (with_reducible repeat (first | refine blk_drewN ?_ _ | refine blk_drew ?_ | refine blk_alloc ?_ _)); refine blk_put (cs := #[.bool false, .int .i64 0, .int .i64 0]) ?_ 0 _ rfl; (with_reducible repeat (first | refine blk_drewN ?_ _ | refine blk_drew ?_ | refine blk_alloc ?_ _)); exact BK132.out) Tryz.underlying32 rfl (by kernel_rfl)) rfl ?_
              exact ⟨by first | rfl | (simp [errW_none, errW_some] <;> rfl) | (simp [*, errW_none, errW_some] <;> rfl), by repeat (first | (with_reducible first | exact HB.out | apply below_alloc | apply pw_below_drewN | apply below_drew1 | refine below_set ?_ GE132.out) | exact HB.out)⟩
            · rw [if_neg c13] at H
              have c13b0 : decide (4611686018427387904 < t135) = false := decide_eq_false c13
              clear c13
              obtain ⟨ji16, hji16⟩ : ∃ j_ : Int, (mx (wrap64 ((wrap64 (Go.bits .xor .u64 t133 9223372036854775808)) - (wrap64 (t135)))) (-9223372036854775)) = j_ := ⟨_, rfl⟩
              replace H : (some (false, ji16, wrap64 (Go.bits .xor .u64 t133 9223372036854775808), wrap64 (8 + t136), 0)) = some (r1, r2, r3, r4, r5) := by first | (rw [hji16] at H; exact H) | (simp only [hji16] at H ⊢; exact H)
              (try rw [hji16] at A6)
              (try rw [hji16] at A9)
              (try rw [hji16] at A11)
              have hji16_ : (if (wrap64 ((wrap64 (Go.bits .xor .u64 t133 9223372036854775808)) - (wrap64 (t135)))) < (-9223372036854775) then (-9223372036854775) else (wrap64 ((wrap64 (Go.bits .xor .u64 t133 9223372036854775808)) - (wrap64 (t135))))) = ji16 := hji16
              simp only [Option.some.injEq, Prod.mk.injEq] at H
              obtain ⟨rfl, rfl, rfl, rfl, rfl⟩ := H
              go_enter Tryz.func58, Tryz.ntmps58
              go_wp2_with (first | ((with_reducible refine gate_dst (N := 4) rfl ?_); refine box_event ?hg (N := 4) ?hd (cs := #[.bool false, .int .i64 0, .int .i64 0]) (t := 32) ?hr ?_; (case hd => rfl); (case hg => rfl); (case hr => first | (go_simp; done) | (go_simp; rfl)); intro gb132 hg w17 hbox hb; have n0_ := Aside0.mk (below_step (by repeat (first | (with_reducible first | exact HB.out | apply below_alloc | apply pw_below_drewN | apply below_drew1) | exact HB.out)) hb); have n1_ := Aside0.mk (hbox); have n2_ := Aside0.mk ((by rw [hg]; exact (below_size (by repeat (first | (with_reducible first | exact HB.out | apply below_alloc | apply pw_below_drewN | apply below_drew1) | exact HB.out))) : w.heap.size ≤ gb132)); have n3_ := Aside0.mk ((by rw [hg]; exact (below_size (by repeat (first | (with_reducible first | exact HB.out | apply below_alloc | apply pw_below_drewN | apply below_drew1) | exact HB.out))) : w.heap.size ≤ gb132)); clear HB; have HB := n0_; have BK132 := n1_; have GW132 := n2_; have GE132 := n3_; clear n0_ n1_ n2_ n3_; clear hb hbox hg) | ((with_reducible refine gate_callee (f := 57) rfl ?_); refine goesL_ (some 17) rfl rfl Tryz.func57 (by kernel_rfl) rfl #[.string a1, .int .i64 8] rfl (by (try simp only [List.map_toArray, List.map_cons, List.map_nil]); first | done | rfl | (simp only [List.length_drop, List.length_take]; rfl)) ?_; (with_reducible refine (spec_codNumber.calls k a1 8 t133 t134 _ A6.out).mono ?_); rintro e w' ⟨rfl, ⟨nd, rfl⟩⟩; refine ⟨_, rfl, ?_⟩; (try (rw [drewN_self w17]; generalize hq_ : World.drewN w17 _ = w17; have n0_ : Aside0 (w17.heap[gb132]? = some (.cells #[.bool false, .int .i64 0, .int .i64 0] 32 (0, 0))) := ⟨by rw [← hq_]; exact (by (with_reducible repeat (first | refine blk_drewN ?_ _ | refine blk_drew ?_ | refine blk_alloc ?_ _)); exact BK132.out)⟩; have n1_ : Aside0 (Below w.heap.size w w17) := ⟨by rw [← hq_]; exact (by repeat (first | (with_reducible first | exact HB.out | apply below_alloc | apply pw_below_drewN | apply below_drew1 | refine below_set ?_ GE132.out) | exact HB.out))⟩; clear BK132 HB hq_; have BK132 := n0_; have HB := n1_; clear n0_ n1_))) | ((with_reducible refine gate_callee (f := 60) rfl ?_); refine goesL_ (some 30) rfl rfl Tryz.func60 (by kernel_rfl) rfl #[.string (a1.extract 8 a1.size)] rfl (by (try simp only [List.map_toArray, List.map_cons, List.map_nil]); first | done | rfl | (simp only [List.length_drop, List.length_take]; rfl)) ?_; (with_reducible refine (spec_CodVarRead.calls k (a1.extract 8 a1.size) t135 t136 t137 _ A9.out).mono ?_); rintro e w' ⟨rfl, ⟨nd, rfl⟩⟩; refine ⟨_, rfl, ?_⟩; (try (rw [drewN_self w17]; generalize hq_ : World.drewN w17 _ = w17; have n0_ : Aside0 (w17.heap[gb132]? = some (.cells #[.bool false, .int .i64 0, .int .i64 0] 32 (0, 0))) := ⟨by rw [← hq_]; exact (by (with_reducible repeat (first | refine blk_drewN ?_ _ | refine blk_drew ?_ | refine blk_alloc ?_ _)); exact BK132.out)⟩; have n1_ : Aside0 (Below w.heap.size w w17) := ⟨by rw [← hq_]; exact (by repeat (first | (with_reducible first | exact HB.out | apply below_alloc | apply pw_below_drewN | apply below_drew1 | refine below_set ?_ GE132.out) | exact HB.out))⟩; clear BK132 HB hq_; have BK132 := n0_; have HB := n1_; clear n0_ n1_))) | ((with_reducible refine gate_callee (f := 30) rfl ?_); refine goesL_ (some 41) rfl rfl Tryz.func30 (by kernel_rfl) rfl #[.int .i64 (wrap64 (Go.bits .xor .u64 t133 9223372036854775808))] rfl (by (try simp only [List.map_toArray, List.map_cons, List.map_nil]); first | done | rfl | (simp only [List.length_drop, List.length_take]; rfl)) ?_; (with_reducible refine (spec_CodSpanTime.calls (wrap64 (Go.bits .xor .u64 t133 9223372036854775808)) true _ A11.out).mono ?_); rintro e w' ⟨rfl, ⟨nd, rfl⟩⟩; refine ⟨_, rfl, ?_⟩; (try (rw [drewN_self w17]; generalize hq_ : World.drewN w17 _ = w17; have n0_ : Aside0 (w17.heap[gb132]? = some (.cells #[.bool false, .int .i64 0, .int .i64 0] 32 (0, 0))) := ⟨by rw [← hq_]; exact (by (with_reducible repeat (first | refine blk_drewN ?_ _ | refine blk_drew ?_ | refine blk_alloc ?_ _)); exact BK132.out)⟩; have n1_ : Aside0 (Below w.heap.size w w17) := ⟨by rw [← hq_]; exact (by repeat (first | (with_reducible first | exact HB.out | apply below_alloc | apply pw_below_drewN | apply below_drew1 | refine below_set ?_ GE132.out) | exact HB.out))⟩; clear BK132 HB hq_; have BK132 := n0_; have HB := n1_; clear n0_ n1_)); have hcz18_0 : w17.cell? ⟨gb132, 0, none⟩ = some (.bool false) := (blk_cell BK132.out 0).trans rfl; have hcz18_1 : w17.cell? ⟨gb132, 1, none⟩ = some (.int .i64 0) := (blk_cell BK132.out 1).trans rfl; have hcz18_2 : w17.cell? ⟨gb132, 2, none⟩ = some (.int .i64 0) := (blk_cell BK132.out 2).trans rfl; have hfz18_0 := blk_frozen BK132.out 0; have hfz18_1 := blk_frozen BK132.out 1; have hfz18_2 := blk_frozen BK132.out 2))
              refine bodyPost_ret (results_ctt rfl _ _ gb132 32 #[.bool false, .int .i64 ji16, .int .i64 (wrap64 (Go.bits .xor .u64 t133 9223372036854775808))] (0, 0) _ rfl (by (with_reducible repeat (first | refine blk_drewN ?_ _ | refine blk_drew ?_ | refine blk_alloc ?_ _)); refine blk_put (cs := #[.bool false, .int .i64 ji16, .int .i64 0]) ?_ 2 _ rfl; (with_reducible repeat (first | refine blk_drewN ?_ _ | refine blk_drew ?_ | refine blk_alloc ?_ _)); refine blk_put (cs := #[.bool false, .int .i64 0, .int .i64 0]) ?_ 1 _ rfl; (with_reducible repeat (first | refine blk_drewN ?_ _ | refine blk_drew ?_ | refine blk_alloc ?_ _)); refine blk_put (cs := #[.bool false, .int .i64 0, .int .i64 0]) ?_ 0 _ rfl; (with_reducible repeat (first | refine blk_drewN ?_ _ | refine blk_drew ?_ | refine blk_alloc ?_ _)); exact BK132.out) Tryz.underlying32 rfl (by kernel_rfl)) rfl ?_
              exact ⟨by first | rfl | (simp [errW_none, errW_some] <;> rfl) | (simp only [← hji16]; first | rfl | (simp [errW_none, errW_some] <;> rfl)) | (simp [*, errW_none, errW_some] <;> rfl), by repeat (first | (with_reducible first | exact HB.out | apply below_alloc | apply pw_below_drewN | apply below_drew1 | refine below_set ?_ GE132.out) | exact HB.out)⟩
          · replace c12 := Bool.eq_false_iff.mpr c12
            subst c12
            have H1 : (some (false, 0, 0, 0, 2)) = some (r1, r2, r3, r4, r5) := by rw [if_neg (show ¬ (false = true) by decide)] at H; exact H
            clear H
            have H := H1
            clear H1
            simp only [Option.some.injEq, Prod.mk.injEq] at H
            obtain ⟨rfl, rfl, rfl, rfl, rfl⟩ := H
            go_enter Tryz.func58, Tryz.ntmps58
            go_wp2_with (first | ((with_reducible refine gate_dst (N := 4) rfl ?_); refine box_event ?hg (N := 4) ?hd (cs := #[.bool false, .int .i64 0, .int .i64 0]) (t := 32) ?hr ?_; (case hd => rfl); (case hg => rfl); (case hr => first | (go_simp; done) | (go_simp; rfl)); intro gb132 hg w19 hbox hb; have n0_ := Aside0.mk (below_step (by repeat (first | (with_reducible first | exact HB.out | apply below_alloc | apply pw_below_drewN | apply below_drew1) | exact HB.out)) hb); have n1_ := Aside0.mk (hbox); have n2_ := Aside0.mk ((by rw [hg]; exact (below_size (by repeat (first | (with_reducible first | exact HB.out | apply below_alloc | apply pw_below_drewN | apply below_drew1) | exact HB.out))) : w.heap.size ≤ gb132)); have n3_ := Aside0.mk ((by rw [hg]; exact (below_size (by repeat (first | (with_reducible first | exact HB.out | apply below_alloc | apply pw_below_drewN | apply below_drew1) | exact HB.out))) : w.heap.size ≤ gb132)); clear HB; have HB := n0_; have BK132 := n1_; have GW132 := n2_; have GE132 := n3_; clear n0_ n1_ n2_ n3_; clear hb hbox hg) | ((with_reducible refine gate_callee (f := 57) rfl ?_); refine goesL_ (some 17) rfl rfl Tryz.func57 (by kernel_rfl) rfl #[.string a1, .int .i64 8] rfl (by (try simp only [List.map_toArray, List.map_cons, List.map_nil]); first | done | rfl | (simp only [List.length_drop, List.length_take]; rfl)) ?_; (with_reducible refine (spec_codNumber.calls k a1 8 t133 t134 _ A6.out).mono ?_); rintro e w' ⟨rfl, ⟨nd, rfl⟩⟩; refine ⟨_, rfl, ?_⟩; (try (rw [drewN_self w19]; generalize hq_ : World.drewN w19 _ = w19; have n0_ : Aside0 (w19.heap[gb132]? = some (.cells #[.bool false, .int .i64 0, .int .i64 0] 32 (0, 0))) := ⟨by rw [← hq_]; exact (by (with_reducible repeat (first | refine blk_drewN ?_ _ | refine blk_drew ?_ | refine blk_alloc ?_ _)); exact BK132.out)⟩; have n1_ : Aside0 (Below w.heap.size w w19) := ⟨by rw [← hq_]; exact (by repeat (first | (with_reducible first | exact HB.out | apply below_alloc | apply pw_below_drewN | apply below_drew1 | refine below_set ?_ GE132.out) | exact HB.out))⟩; clear BK132 HB hq_; have BK132 := n0_; have HB := n1_; clear n0_ n1_))) | ((with_reducible refine gate_callee (f := 60) rfl ?_); refine goesL_ (some 30) rfl rfl Tryz.func60 (by kernel_rfl) rfl #[.string (a1.extract 8 a1.size)] rfl (by (try simp only [List.map_toArray, List.map_cons, List.map_nil]); first | done | rfl | (simp only [List.length_drop, List.length_take]; rfl)) ?_; (with_reducible refine (spec_CodVarRead.calls k (a1.extract 8 a1.size) t135 t136 t137 _ A9.out).mono ?_); rintro e w' ⟨rfl, ⟨nd, rfl⟩⟩; refine ⟨_, rfl, ?_⟩; (try (rw [drewN_self w19]; generalize hq_ : World.drewN w19 _ = w19; have n0_ : Aside0 (w19.heap[gb132]? = some (.cells #[.bool false, .int .i64 0, .int .i64 0] 32 (0, 0))) := ⟨by rw [← hq_]; exact (by (with_reducible repeat (first | refine blk_drewN ?_ _ | refine blk_drew ?_ | refine blk_alloc ?_ _)); exact BK132.out)⟩; have n1_ : Aside0 (Below w.heap.size w w19) := ⟨by rw [← hq_]; exact (by repeat (first | (with_reducible first | exact HB.out | apply below_alloc | apply pw_below_drewN | apply below_drew1 | refine below_set ?_ GE132.out) | exact HB.out))⟩; clear BK132 HB hq_; have BK132 := n0_; have HB := n1_; clear n0_ n1_))) | ((with_reducible refine gate_callee (f := 30) rfl ?_); refine goesL_ (some 41) rfl rfl Tryz.func30 (by kernel_rfl) rfl #[.int .i64 (wrap64 (Go.bits .xor .u64 t133 9223372036854775808))] rfl (by (try simp only [List.map_toArray, List.map_cons, List.map_nil]); first | done | rfl | (simp only [List.length_drop, List.length_take]; rfl)) ?_; (with_reducible refine (spec_CodSpanTime.calls (wrap64 (Go.bits .xor .u64 t133 9223372036854775808)) false _ A11.out).mono ?_); rintro e w' ⟨rfl, ⟨nd, rfl⟩⟩; refine ⟨_, rfl, ?_⟩; (try (rw [drewN_self w19]; generalize hq_ : World.drewN w19 _ = w19; have n0_ : Aside0 (w19.heap[gb132]? = some (.cells #[.bool false, .int .i64 0, .int .i64 0] 32 (0, 0))) := ⟨by rw [← hq_]; exact (by (with_reducible repeat (first | refine blk_drewN ?_ _ | refine blk_drew ?_ | refine blk_alloc ?_ _)); exact BK132.out)⟩; have n1_ : Aside0 (Below w.heap.size w w19) := ⟨by rw [← hq_]; exact (by repeat (first | (with_reducible first | exact HB.out | apply below_alloc | apply pw_below_drewN | apply below_drew1 | refine below_set ?_ GE132.out) | exact HB.out))⟩; clear BK132 HB hq_; have BK132 := n0_; have HB := n1_; clear n0_ n1_)); have hcz20_0 : w19.cell? ⟨gb132, 0, none⟩ = some (.bool false) := (blk_cell BK132.out 0).trans rfl; have hcz20_1 : w19.cell? ⟨gb132, 1, none⟩ = some (.int .i64 0) := (blk_cell BK132.out 1).trans rfl; have hcz20_2 : w19.cell? ⟨gb132, 2, none⟩ = some (.int .i64 0) := (blk_cell BK132.out 2).trans rfl; have hfz20_0 := blk_frozen BK132.out 0; have hfz20_1 := blk_frozen BK132.out 1; have hfz20_2 := blk_frozen BK132.out 2))
            refine bodyPost_ret (results_ctt rfl _ _ gb132 32 #[.bool false, .int .i64 0, .int .i64 0] (0, 0) _ rfl (by (with_reducible repeat (first | refine blk_drewN ?_ _ | refine blk_drew ?_ | refine blk_alloc ?_ _)); refine blk_put (cs := #[.bool false, .int .i64 0, .int .i64 0]) ?_ 2 _ rfl; (with_reducible repeat (first | refine blk_drewN ?_ _ | refine blk_drew ?_ | refine blk_alloc ?_ _)); refine blk_put (cs := #[.bool false, .int .i64 0, .int .i64 0]) ?_ 1 _ rfl; (with_reducible repeat (first | refine blk_drewN ?_ _ | refine blk_drew ?_ | refine blk_alloc ?_ _)); refine blk_put (cs := #[.bool false, .int .i64 0, .int .i64 0]) ?_ 0 _ rfl; (with_reducible repeat (first | refine blk_drewN ?_ _ | refine blk_drew ?_ | refine blk_alloc ?_ _)); exact BK132.out) Tryz.underlying32 rfl (by kernel_rfl)) rfl ?_
            exact ⟨by first | rfl | (simp [errW_none, errW_some] <;> rfl) | (simp [*, errW_none, errW_some] <;> rfl), by repeat (first | (with_reducible first | exact HB.out | apply below_alloc | apply pw_below_drewN | apply below_drew1 | refine below_set ?_ GE132.out) | exact HB.out)⟩
        · rw [if_neg c10] at H
          have c10b0 : (t137 == 0) = false := beq_eq_false_iff_ne.mpr c10
          have c10b1 : (t137 != 0) = true := bne_iff_ne.mpr c10
          simp only [Option.some.injEq, Prod.mk.injEq] at H
          obtain ⟨rfl, rfl, rfl, rfl, rfl⟩ := H
          go_enter Tryz.func58, Tryz.ntmps58
          go_wp2_with (first | ((with_reducible refine gate_dst (N := 4) rfl ?_); refine box_event ?hg (N := 4) ?hd (cs := #[.bool false, .int .i64 0, .int .i64 0]) (t := 32) ?hr ?_; (case hd => rfl); (case hg => rfl); (case hr => first | (go_simp; done) | (go_simp; rfl)); intro gb132 hg w21 hbox hb; have n0_ := Aside0.mk (below_step (by repeat (first | (with_reducible first | exact HB.out | apply below_alloc | apply pw_below_drewN | apply below_drew1) | exact HB.out)) hb); have n1_ := Aside0.mk (hbox); have n2_ := Aside0.mk ((by rw [hg]; exact (below_size (by repeat (first | (with_reducible first | exact HB.out | apply below_alloc | apply pw_below_drewN | apply below_drew1) | exact HB.out))) : w.heap.size ≤ gb132)); have n3_ := Aside0.mk ((by rw [hg]; exact (below_size (by repeat (first | (with_reducible first | exact HB.out | apply below_alloc | apply pw_below_drewN | apply below_drew1) | exact HB.out))) : w.heap.size ≤ gb132)); clear HB; have HB := n0_; have BK132 := n1_; have GW132 := n2_; have GE132 := n3_; clear n0_ n1_ n2_ n3_; clear hb hbox hg) | ((with_reducible refine gate_callee (f := 57) rfl ?_); refine goesL_ (some 17) rfl rfl Tryz.func57 (by kernel_rfl) rfl #[.string a1, .int .i64 8] rfl (by (try simp only [List.map_toArray, List.map_cons, List.map_nil]); first | done | rfl | (simp only [List.length_drop, List.length_take]; rfl)) ?_; (with_reducible refine (spec_codNumber.calls k a1 8 t133 t134 _ A6.out).mono ?_); rintro e w' ⟨rfl, ⟨nd, rfl⟩⟩; refine ⟨_, rfl, ?_⟩; (try (rw [drewN_self w21]; generalize hq_ : World.drewN w21 _ = w21; have n0_ : Aside0 (w21.heap[gb132]? = some (.cells #[.bool false, .int .i64 0, .int .i64 0] 32 (0, 0))) := ⟨by rw [← hq_]; exact (by (with_reducible repeat (first | refine blk_drewN ?_ _ | refine blk_drew ?_ | refine blk_alloc ?_ _)); exact BK132.out)⟩; have n1_ : Aside0 (Below w.heap.size w w21) := ⟨by rw [← hq_]; exact (by repeat (first | (with_reducible first | exact HB.out | apply below_alloc | apply pw_below_drewN | apply below_drew1 | refine below_set ?_ GE132.out) | exact HB.out))⟩; clear BK132 HB hq_; have BK132 := n0_; have HB := n1_; clear n0_ n1_))) | ((with_reducible refine gate_callee (f := 60) rfl ?_); refine goesL_ (some 30) rfl rfl Tryz.func60 (by kernel_rfl) rfl #[.string (a1.extract 8 a1.size)] rfl (by (try simp only [List.map_toArray, List.map_cons, List.map_nil]); first | done | rfl | (simp only [List.length_drop, List.length_take]; rfl)) ?_; (with_reducible refine (spec_CodVarRead.calls k (a1.extract 8 a1.size) t135 t136 t137 _ A9.out).mono ?_); rintro e w' ⟨rfl, ⟨nd, rfl⟩⟩; refine ⟨_, rfl, ?_⟩; (try (rw [drewN_self w21]; generalize hq_ : World.drewN w21 _ = w21; have n0_ : Aside0 (w21.heap[gb132]? = some (.cells #[.bool false, .int .i64 0, .int .i64 0] 32 (0, 0))) := ⟨by rw [← hq_]; exact (by (with_reducible repeat (first | refine blk_drewN ?_ _ | refine blk_drew ?_ | refine blk_alloc ?_ _)); exact BK132.out)⟩; have n1_ : Aside0 (Below w.heap.size w w21) := ⟨by rw [← hq_]; exact (by repeat (first | (with_reducible first | exact HB.out | apply below_alloc | apply pw_below_drewN | apply below_drew1 | refine below_set ?_ GE132.out) | exact HB.out))⟩; clear BK132 HB hq_; have BK132 := n0_; have HB := n1_; clear n0_ n1_)); have hcz22_0 : w21.cell? ⟨gb132, 0, none⟩ = some (.bool false) := (blk_cell BK132.out 0).trans rfl; have hcz22_1 : w21.cell? ⟨gb132, 1, none⟩ = some (.int .i64 0) := (blk_cell BK132.out 1).trans rfl; have hcz22_2 : w21.cell? ⟨gb132, 2, none⟩ = some (.int .i64 0) := (blk_cell BK132.out 2).trans rfl; have hfz22_0 := blk_frozen BK132.out 0; have hfz22_1 := blk_frozen BK132.out 1; have hfz22_2 := blk_frozen BK132.out 2))
          refine bodyPost_ret (results_ctt rfl _ _ gb132 32 #[.bool false, .int .i64 0, .int .i64 0] (0, 0) _ rfl (by (with_reducible repeat (first | refine blk_drewN ?_ _ | refine blk_drew ?_ | refine blk_alloc ?_ _)); refine blk_put (cs := #[.bool false, .int .i64 0, .int .i64 0]) ?_ 2 _ rfl; (with_reducible repeat (first | refine blk_drewN ?_ _ | refine blk_drew ?_ | refine blk_alloc ?_ _)); refine blk_put (cs := #[.bool false, .int .i64 0, .int .i64 0]) ?_ 1 _ rfl; (with_reducible repeat (first | refine blk_drewN ?_ _ | refine blk_drew ?_ | refine blk_alloc ?_ _)); refine blk_put (cs := #[.bool false, .int .i64 0, .int .i64 0]) ?_ 0 _ rfl; (with_reducible repeat (first | refine blk_drewN ?_ _ | refine blk_drew ?_ | refine blk_alloc ?_ _)); exact BK132.out) Tryz.underlying32 rfl (by kernel_rfl)) rfl ?_
          exact ⟨by first | rfl | (simp [errW_none, errW_some] <;> rfl) | (simp [*, errW_none, errW_some] <;> rfl), by repeat (first | (with_reducible first | exact HB.out | apply below_alloc | apply pw_below_drewN | apply below_drew1 | refine below_set ?_ GE132.out) | exact HB.out)⟩
      · rw [if_neg c8] at H
        exact absurd H (by simp)
    · rw [if_neg c7] at H
      have c7b0 : (t134 == 0) = false := beq_eq_false_iff_ne.mpr c7
      have c7b1 : (t134 != 0) = true := bne_iff_ne.mpr c7
      simp only [Option.some.injEq, Prod.mk.injEq] at H
      obtain ⟨rfl, rfl, rfl, rfl, rfl⟩ := H
      go_enter Tryz.func58, Tryz.ntmps58
      go_wp2_with (first | ((with_reducible refine gate_dst (N := 4) rfl ?_); refine box_event ?hg (N := 4) ?hd (cs := #[.bool false, .int .i64 0, .int .i64 0]) (t := 32) ?hr ?_; (case hd => rfl); (case hg => rfl); (case hr => first | (go_simp; done) | (go_simp; rfl)); intro gb132 hg w23 hbox hb; have n0_ := Aside0.mk (below_step (by repeat (first | (with_reducible first | exact HB.out | apply below_alloc | apply pw_below_drewN | apply below_drew1) | exact HB.out)) hb); have n1_ := Aside0.mk (hbox); have n2_ := Aside0.mk ((by rw [hg]; exact (below_size (by repeat (first | (with_reducible first | exact HB.out | apply below_alloc | apply pw_below_drewN | apply below_drew1) | exact HB.out))) : w.heap.size ≤ gb132)); have n3_ := Aside0.mk ((by rw [hg]; exact (below_size (by repeat (first | (with_reducible first | exact HB.out | apply below_alloc | apply pw_below_drewN | apply below_drew1) | exact HB.out))) : w.heap.size ≤ gb132)); clear HB; have HB := n0_; have BK132 := n1_; have GW132 := n2_; have GE132 := n3_; clear n0_ n1_ n2_ n3_; clear hb hbox hg) | ((with_reducible refine gate_callee (f := 57) rfl ?_); refine goesL_ (some 17) rfl rfl Tryz.func57 (by kernel_rfl) rfl #[.string a1, .int .i64 8] rfl (by (try simp only [List.map_toArray, List.map_cons, List.map_nil]); first | done | rfl | (simp only [List.length_drop, List.length_take]; rfl)) ?_; (with_reducible refine (spec_codNumber.calls k a1 8 t133 t134 _ A6.out).mono ?_); rintro e w' ⟨rfl, ⟨nd, rfl⟩⟩; refine ⟨_, rfl, ?_⟩; (try (rw [drewN_self w23]; generalize hq_ : World.drewN w23 _ = w23; have n0_ : Aside0 (w23.heap[gb132]? = some (.cells #[.bool false, .int .i64 0, .int .i64 0] 32 (0, 0))) := ⟨by rw [← hq_]; exact (by (with_reducible repeat (first | refine blk_drewN ?_ _ | refine blk_drew ?_ | refine blk_alloc ?_ _)); exact BK132.out)⟩; have n1_ : Aside0 (Below w.heap.size w w23) := ⟨by rw [← hq_]; exact (by repeat (first | (with_reducible first | exact HB.out | apply below_alloc | apply pw_below_drewN | apply below_drew1 | refine below_set ?_ GE132.out) | exact HB.out))⟩; clear BK132 HB hq_; have BK132 := n0_; have HB := n1_; clear n0_ n1_)); have hcz24_0 : w23.cell? ⟨gb132, 0, none⟩ = some (.bool false) := (blk_cell BK132.out 0).trans rfl; have hcz24_1 : w23.cell? ⟨gb132, 1, none⟩ = some (.int .i64 0) := (blk_cell BK132.out 1).trans rfl; have hcz24_2 : w23.cell? ⟨gb132, 2, none⟩ = some (.int .i64 0) := (blk_cell BK132.out 2).trans rfl; have hfz24_0 := blk_frozen BK132.out 0; have hfz24_1 := blk_frozen BK132.out 1; have hfz24_2 := blk_frozen BK132.out 2))
      refine bodyPost_ret (results_ctt rfl _ _ gb132 32 #[.bool false, .int .i64 0, .int .i64 0] (0, 0) _ rfl (by (with_reducible repeat (first | refine blk_drewN ?_ _ | refine blk_drew ?_ | refine blk_alloc ?_ _)); refine blk_put (cs := #[.bool false, .int .i64 0, .int .i64 0]) ?_ 2 _ rfl; (with_reducible repeat (first | refine blk_drewN ?_ _ | refine blk_drew ?_ | refine blk_alloc ?_ _)); refine blk_put (cs := #[.bool false, .int .i64 0, .int .i64 0]) ?_ 1 _ rfl; (with_reducible repeat (first | refine blk_drewN ?_ _ | refine blk_drew ?_ | refine blk_alloc ?_ _)); refine blk_put (cs := #[.bool false, .int .i64 0, .int .i64 0]) ?_ 0 _ rfl; (with_reducible repeat (first | refine blk_drewN ?_ _ | refine blk_drew ?_ | refine blk_alloc ?_ _)); exact BK132.out) Tryz.underlying32 rfl (by kernel_rfl)) rfl ?_
      exact ⟨by first | rfl | (simp [errW_none, errW_some] <;> rfl) | (simp [*, errW_none, errW_some] <;> rfl), by repeat (first | (with_reducible first | exact HB.out | apply below_alloc | apply pw_below_drewN | apply below_drew1 | refine below_set ?_ GE132.out) | exact HB.out)⟩
def spec_CodSpansRead.l0 : Nat → Int → ByteArray → List (S32) → Int → Int → Int → Option ((List (S32)) × Int × Int)
  | 0, _, _, _, _, _, _ => none
  | k + 1, x0, x1, x9, x10, x28, x29 => if x29 < x28 then (if 0 ≤ x10 then (if x10 ≤ (x1.size : Int) then ((spec_CodSpanRead.f k x0 (x1.extract (x10 : Int).toNat x1.size)).bind fun bt144 => (if bt144.2.2.2.2 = 0 then (if x9.length < 5864062014805 then (spec_CodSpansRead.l0 k x0 x1 (x9 ++ [(⟨bt144.1, bt144.2.1, bt144.2.2.1⟩ : S32)]) (wrap64 (x10 + bt144.2.2.2.1)) x28 (IntKind.u64.wrap (x29 + 1))) else (none)) else (some (([] : List (S32)), 0, bt144.2.2.2.2)))) else (none)) else (none)) else (some (x9, x10, 0))
def spec_CodSpansRead.f (k : Nat) (a0 : Int) (a1 : ByteArray) : Option ((List (S32)) × Int × Int) := (spec_codNumber.f k a1 4).bind fun bt139 => (if bt139.2 = 0 then (if a0 = 0 then (some ((([(⟨true, 0, 0⟩ : S32)] : List (S32))), 4, 0)) else (if bt139.1 > 10000 then (some (([] : List (S32)), 0, 2)) else (spec_CodSpansRead.l0 k a0 a1 ([] : List (S32)) 4 bt139.1 0))) else (some (([] : List (S32)), 0, bt139.2)))
theorem spec_CodSpansRead.mono_l : ∀ k, (∀ y0 y1 y2 y3 y4 y5, LeO (spec_CodSpansRead.l0 k y0 y1 y2 y3 y4 y5) (spec_CodSpansRead.l0 (k + 1) y0 y1 y2 y3 y4 y5))
  | 0 => fun _ _ _ _ _ _ r h => by simp [spec_CodSpansRead.l0] at h
  | k + 1 => by
    have ih0 := spec_CodSpansRead.mono_l k
    · intro y0 y1 y2 y3 y4 y5
      unfold spec_CodSpansRead.l0
      repeat' first
      | (with_reducible exact ih0 _ _ _ _ _ _)
      | (with_reducible exact spec_CodSpanRead.mono _ _ _)
      | (with_reducible exact spec_codNumber.mono _ _ _)
      | (with_reducible exact LeO.refl _)
      | (with_reducible exact LeO.none _)
      | (with_reducible refine LeO.ite ?_ ?_)
      | (with_reducible refine LeO.bind ?_ (fun _ => ?_))
      | exact ih0 _ _ _ _ _ _
      | exact spec_CodSpanRead.mono _ _ _
      | exact spec_codNumber.mono _ _ _
      | exact LeO.none _
      | refine LeO.ite ?_ ?_
      | refine LeO.bind ?_ (fun _ => ?_)
theorem spec_CodSpansRead.mono : ∀ a0 a1 k, LeO (spec_CodSpansRead.f k a0 a1) (spec_CodSpansRead.f (k + 1) a0 a1) := by
  intro a0 a1 k
  have ih0 := spec_CodSpansRead.mono_l k
  unfold spec_CodSpansRead.f
  repeat' first
      | (with_reducible exact ih0 _ _ _ _ _ _)
      | (with_reducible exact spec_CodSpanRead.mono _ _ _)
      | (with_reducible exact spec_codNumber.mono _ _ _)
      | (with_reducible exact LeO.refl _)
      | (with_reducible exact LeO.none _)
      | (with_reducible refine LeO.ite ?_ ?_)
      | (with_reducible refine LeO.bind ?_ (fun _ => ?_))
      | exact ih0 _ _ _ _ _ _
      | exact spec_CodSpanRead.mono _ _ _
      | exact spec_codNumber.mono _ _ _
      | exact LeO.none _
      | refine LeO.ite ?_ ?_
      | refine LeO.bind ?_ (fun _ => ?_)
set_option maxHeartbeats 8000000 in
set_option maxRecDepth 100000 in
theorem spec_CodSpansRead.calls (k : Nat) (a0 : Int) (a1 : ByteArray) (r1 : List (S32)) (r2 : Int) (r3 : Int) (w : World) (h : spec_CodSpansRead.f k a0 a1 = some (r1, r2, r3)) :
    Calls Tryz.prog 28 #[.int .i64 a0, .string a1] w fun e w' => ∃ v0_ : Value, e = .returned (.tuple #[v0_, .int .i64 r2, .int .i64 r3]) ∧ Kd.R k32 32 w' w.heap.size (fun _ => True) v0_ r1 ∧ Below w.heap.size w w' := by
  have hu32 := Tryz.underlying32
  have HB := Aside0.mk (Below.refl w.heap.size w)
  have H : ((spec_codNumber.f k a1 4).bind fun bt139 => (if bt139.2 = 0 then (if a0 = 0 then (some ((([(⟨true, 0, 0⟩ : S32)] : List (S32))), 4, 0)) else (if bt139.1 > 10000 then (some (([] : List (S32)), 0, 2)) else (spec_CodSpansRead.l0 k a0 a1 ([] : List (S32)) 4 bt139.1 0))) else (some (([] : List (S32)), 0, bt139.2)))) = some (r1, r2, r3) := h
  clear h
  replace H := Option.bind_eq_some_iff.mp H
  obtain ⟨⟨t139, t140⟩, A30, H⟩ := H
  replace H : (if t140 = 0 then (if a0 = 0 then (some ((([(⟨true, 0, 0⟩ : S32)] : List (S32))), 4, 0)) else (if t139 > 10000 then (some (([] : List (S32)), 0, 2)) else (spec_CodSpansRead.l0 k a0 a1 ([] : List (S32)) 4 t139 0))) else (some (([] : List (S32)), 0, t140))) = some (r1, r2, r3) := H
  have A3 := Aside0.mk A30
  clear A30
  by_cases c4 : t140 = 0
  · rw [if_pos c4] at H
    have c4b0 : (t140 == 0) = true := beq_iff_eq.mpr c4
    have c4b1 : (t140 != 0) = false := bne_eq_false_iff_eq.mpr c4
    clear c4
    by_cases c5 : a0 = 0
    · rw [if_pos c5] at H
      have c5b0 : (a0 == 0) = true := beq_iff_eq.mpr c5
      have c5b1 : (a0 != 0) = false := bne_eq_false_iff_eq.mpr c5
      clear c5
      obtain ⟨y141, hy141⟩ : ∃ y_ : List (S32), y_ = (([(⟨true, 0, 0⟩ : S32)] : List (S32))) := ⟨_, rfl⟩
      replace H : (some (y141, 4, 0)) = some (r1, r2, r3) := by first | (rw [hy141]; with_reducible exact H) | (have H2_ := (Option.bind_some _ _).symm.trans H; rw [hy141]; with_reducible exact H2_) | (have H2_ := (Option.bind_some _ _).symm.trans H; with_reducible exact H2_) | with_reducible exact H | (rw [hy141]; exact H) | exact H
      have Ny141 := Aside0.mk hy141
      clear hy141
      simp only [Option.some.injEq, Prod.mk.injEq] at H
      obtain ⟨rfl, rfl, rfl⟩ := H
      go_enter Tryz.func28, Tryz.ntmps28
      go_wp2_with (first | ((with_reducible refine gate_callee (f := 57) rfl ?_); refine goesL_ (some 16) rfl rfl Tryz.func57 (by kernel_rfl) rfl #[.string a1, .int .i64 4] rfl (by (try simp only [List.map_toArray, List.map_cons, List.map_nil]); first | done | rfl | (simp only [List.length_drop, List.length_take]; rfl)) ?_; (with_reducible refine (spec_codNumber.calls k a1 4 t139 t140 _ A3.out).mono ?_); rintro e w' ⟨rfl, ⟨nd, rfl⟩⟩; refine ⟨_, rfl, ?_⟩) | ((with_reducible refine gate_dst (N := 25) rfl ?_); refine Kd.R_lit k32 _ 32 ?hg (N := 25) ?hd (xs := ([(⟨true, 0, 0⟩ : S32)] : List (S32))) (inner := [.bool true, .int .i64 0, .int .i64 0]) (ok := fun _ => True) (okp := fun _ => True) ?hr ?hp (fun _ hk => hk) trivial (Below.refl _ _) (Nat.le_refl _) (by simp) ?_; (case hd => rfl); (case hg => rfl); (case hr => first | (go_simp; done) | (go_simp; rfl)); (case hp => exact (Reps.c3 (show Kd.M k32 _ _ _ (⟨true, 0, 0⟩ : S32) [.bool true, .int .i64 0, .int .i64 0] from (k32_mkM _ _ _ (⟨true, 0, 0⟩ : S32) )) (Reps.none _ _))); intro v142 w6 ho7 hb hg_ hnew_; clear hg_ hnew_; (first | rw [← Ny141.out] at ho7 | (simp only [Int.reduceToNat] at ho7; rw [← Ny141.out] at ho7)); have n0_ := Aside0.mk (Kd.R_lower ho7 (below_size (by repeat (first | (with_reducible first | exact HB.out | apply below_alloc | apply pw_below_drewN | apply below_drew1) | exact HB.out)))); have n1_ := Aside0.mk (below_step (by repeat (first | (with_reducible first | exact HB.out | apply below_alloc | apply pw_below_drewN | apply below_drew1) | exact HB.out)) hb); clear HB; have HO143 := n0_; have HB := n1_; clear n0_ n1_; clear hb ho7))
      go_ret3
      exact ⟨_, by first | rfl | (simp [errW_none, errW_some] <;> rfl) | (simp [*, errW_none, errW_some] <;> rfl), by (with_reducible repeat (first | apply Kd.R_alloc | apply Kd.R_drewN | apply Kd.R_drew)); exact HO143.out, by repeat (first | (with_reducible first | exact HB.out | apply below_alloc | apply pw_below_drewN | apply below_drew1) | exact HB.out)⟩
    · rw [if_neg c5] at H
      have c5b0 : (a0 == 0) = false := beq_eq_false_iff_ne.mpr c5
      have c5b1 : (a0 != 0) = true := bne_iff_ne.mpr c5
      by_cases c8 : t139 > 10000
      · rw [if_pos c8] at H
        have c8b0 : decide (10000 < t139) = true := decide_eq_true c8
        clear c8
        simp only [Option.some.injEq, Prod.mk.injEq] at H
        obtain ⟨rfl, rfl, rfl⟩ := H
        go_enter Tryz.func28, Tryz.ntmps28
        go_wp2_with (first | ((with_reducible refine gate_callee (f := 57) rfl ?_); refine goesL_ (some 16) rfl rfl Tryz.func57 (by kernel_rfl) rfl #[.string a1, .int .i64 4] rfl (by (try simp only [List.map_toArray, List.map_cons, List.map_nil]); first | done | rfl | (simp only [List.length_drop, List.length_take]; rfl)) ?_; (with_reducible refine (spec_codNumber.calls k a1 4 t139 t140 _ A3.out).mono ?_); rintro e w' ⟨rfl, ⟨nd, rfl⟩⟩; refine ⟨_, rfl, ?_⟩))
        go_ret3
        exact ⟨_, by first | rfl | (simp [errW_none, errW_some] <;> rfl) | (simp [*, errW_none, errW_some] <;> rfl), by first | exact Kd.R_nil _ _ _ _ _ | exact Kd.N_nil _ _ _ _ _ | exact Kd.V_nil _ _ _ _ _ | exact Kd.Q_nil _ _ _ _ _ | exact Kd.S_nil _ _ _ _ _, by repeat (first | (with_reducible first | exact HB.out | apply below_alloc | apply pw_below_drewN | apply below_drew1) | exact HB.out)⟩
      · rw [if_neg c8] at H
        have c8b0 : decide (10000 < t139) = false := decide_eq_false c8
        clear c8
        have H' := Aside0.mk H
        clear H
        go_enter Tryz.func28, Tryz.ntmps28
        go_wp2_with (first | ((with_reducible refine gate_callee (f := 57) rfl ?_); refine goesL_ (some 16) rfl rfl Tryz.func57 (by kernel_rfl) rfl #[.string a1, .int .i64 4] rfl (by (try simp only [List.map_toArray, List.map_cons, List.map_nil]); first | done | rfl | (simp only [List.length_drop, List.length_take]; rfl)) ?_; (with_reducible refine (spec_codNumber.calls k a1 4 t139 t140 _ A3.out).mono ?_); rintro e w' ⟨rfl, ⟨nd, rfl⟩⟩; refine ⟨_, rfl, ?_⟩))
        go_loopg [9, 10, 29] k (fun kq v9 v10 v29 w' => ∃ (x9_1 : List (S32)) (x10_1 : Int) (x29_1 : Int), v10 = .int .i64 x10_1 ∧ v29 = .int .u64 x29_1 ∧ Aside0 (spec_CodSpansRead.l0 kq a0 a1 x9_1 x10_1 t139 x29_1 = some (r1, r2, r3)) ∧ Aside0 (kq ≤ k) ∧ Aside0 (Kd.R k32 32 w' w.heap.size (fun _ => True) v9 x9_1) ∧ Aside0 (Below w.heap.size w w'))
        case atStart => exact ⟨(([] : List (S32))), (4), (0), (by first | rfl | (simp; done) | (simp [*]; done)), (by first | rfl | (simp; done) | (simp [*]; done)), H', ⟨Nat.le_refl _⟩, ⟨by first | exact Kd.R_nil _ _ _ _ _ | exact Kd.N_nil _ _ _ _ _ | exact Kd.V_nil _ _ _ _ _ | exact Kd.Q_nil _ _ _ _ _ | exact Kd.S_nil _ _ _ _ _⟩, ⟨by repeat (first | (with_reducible first | exact HB.out | apply below_alloc | apply pw_below_drewN | apply below_drew1) | exact HB.out)⟩⟩
        case round =>
          clear H'
          try clear c2
          try clear p2
          try clear c3
          try clear c4
          try clear c4b0
          try clear c4b1
          try clear c5
          try clear c5b0
          try clear c5b1
          try clear c8
          try clear c8b0
          obtain ⟨x9_1, x10_1, x29_1, rfl, rfl, HA, HK1, HO_9, HB⟩ := hrel
          cases gk with
          | zero => exact absurd HA.out (by simp [spec_CodSpansRead.l0])
          | succ k1 =>
            have H := HA.out
            clear HA
            simp only [spec_CodSpansRead.l0] at H
            by_cases c9 : x29_1 < t139
            · rw [if_pos c9] at H
              have c9b0 : decide (x29_1 < t139) = true := decide_eq_true c9
              clear c9
              by_cases c10 : 0 ≤ x10_1
              · rw [if_pos c10] at H
                have c10b0 := eq_true c10
                have c10b1 : decide (0 ≤ x10_1) = true := decide_eq_true c10
                clear c10
                by_cases c11 : x10_1 ≤ (a1.size : Int)
                · rw [if_pos c11] at H
                  have c11b0 := eq_true c11
                  have c11b1 : decide (x10_1 ≤ (a1.size : Int)) = true := decide_eq_true c11
                  clear c11
                  replace H := Option.bind_eq_some_iff.mp H
                  obtain ⟨⟨t144, t145, t146, t147, t148⟩, A120, H⟩ := H
                  replace H : (if t148 = 0 then (if x9_1.length < 5864062014805 then (spec_CodSpansRead.l0 k1 a0 a1 (x9_1 ++ [(⟨t144, t145, t146⟩ : S32)]) (wrap64 (x10_1 + t147)) t139 (IntKind.u64.wrap (x29_1 + 1))) else (none)) else (some (([] : List (S32)), 0, t148))) = some (r1, r2, r3) := H
                  have A12 := Aside0.mk A120
                  clear A120
                  by_cases c13 : t148 = 0
                  · rw [if_pos c13] at H
                    have c13b0 : (t148 == 0) = true := beq_iff_eq.mpr c13
                    have c13b1 : (t148 != 0) = false := bne_eq_false_iff_eq.mpr c13
                    clear c13
                    by_cases c14 : x9_1.length < 5864062014805
                    · rw [if_pos c14] at H
                      have LMc14 := Aside0.mk c14
                      clear c14
                      obtain ⟨y150, hy150⟩ : ∃ y_ : List (S32), y_ = (x9_1 ++ [(⟨t144, t145, t146⟩ : S32)]) := ⟨_, rfl⟩
                      replace H : (spec_CodSpansRead.l0 k1 a0 a1 y150 (wrap64 (x10_1 + t147)) t139 (IntKind.u64.wrap (x29_1 + 1))) = some (r1, r2, r3) := by first | (rw [hy150]; with_reducible exact H) | (have H2_ := (Option.bind_some _ _).symm.trans H; rw [hy150]; with_reducible exact H2_) | (have H2_ := (Option.bind_some _ _).symm.trans H; with_reducible exact H2_) | with_reducible exact H | (rw [hy150]; exact H) | exact H
                      have Ny150 := Aside0.mk hy150
                      clear hy150
                      have H' := Aside0.mk H
                      clear H
                      go_wp2_with (first | ((with_reducible refine gate_callee (f := 58) rfl ?_); refine goesL_ (some 36) rfl rfl Tryz.func58 (by kernel_rfl) rfl #[.int .i64 a0, .string (a1.extract (x10_1 : Int).toNat a1.size)] rfl (by (try simp only [List.map_toArray, List.map_cons, List.map_nil]); first | done | rfl | (simp only [List.length_drop, List.length_take]; rfl)) ?_; (with_reducible refine (spec_CodSpanRead.calls k1 a0 (a1.extract (x10_1 : Int).toNat a1.size) t144 t145 t146 t147 t148 _ A12.out).mono ?_); rintro e w15 ⟨rfl, hb⟩; refine ⟨_, rfl, ?_⟩; have n0_ := Aside0.mk (Kd.R_below (by (with_reducible repeat (first | apply Kd.R_alloc | apply Kd.R_drewN | apply Kd.R_drew)); exact HO_9.out) hb); have n1_ := Aside0.mk (below_step (by repeat (first | (with_reducible first | exact HB.out | apply below_alloc | apply pw_below_drewN | apply below_drew1) | exact HB.out)) hb); clear HO_9; clear HB; have HO_9 := n0_; have HB := n1_; clear n0_ n1_; (try clear hb); (try clear hb2); (try clear hk); (try clear hi)) | ((with_reducible refine gate_dst (N := 11) rfl ?_); refine box_event ?hg (N := 11) ?hd (cs := #[.bool false, .int .i64 0, .int .i64 0]) (t := 32) ?hr ?_; (case hd => rfl); (case hg => rfl); (case hr => first | (go_simp; done) | (go_simp; rfl)); intro gb149 hg w16 hbox hb; have n0_ := Aside0.mk (Kd.R_below (Kd.R_elderB (by (with_reducible repeat (first | apply Kd.R_alloc | apply Kd.R_drewN | apply Kd.R_drew)); exact HO_9.out) gb149 (Nat.le_of_eq hg.symm)) hb); have n1_ := Aside0.mk (below_step (by repeat (first | (with_reducible first | exact HB.out | apply below_alloc | apply pw_below_drewN | apply below_drew1) | exact HB.out)) hb); have n2_ := Aside0.mk (hbox); have n3_ := Aside0.mk ((by rw [hg]; exact (below_size (by repeat (first | (with_reducible first | exact HB.out | apply below_alloc | apply pw_below_drewN | apply below_drew1) | exact HB.out))) : w.heap.size ≤ gb149)); have n4_ := Aside0.mk ((by rw [hg]; exact (below_size (by repeat (first | (with_reducible first | exact HB.out | apply below_alloc | apply pw_below_drewN | apply below_drew1) | exact HB.out))) : w.heap.size ≤ gb149)); clear HO_9; clear HB; have HO_9 := n0_; have HB := n1_; have BK149 := n2_; have GW149 := n3_; have GE149 := n4_; clear n0_ n1_ n2_ n3_ n4_; clear hb hbox hg; have hcz17_0 : w16.cell? ⟨gb149, 0, none⟩ = some (.bool false) := (blk_cell BK149.out 0).trans rfl; have hcz17_1 : w16.cell? ⟨gb149, 1, none⟩ = some (.int .i64 0) := (blk_cell BK149.out 1).trans rfl; have hcz17_2 : w16.cell? ⟨gb149, 2, none⟩ = some (.int .i64 0) := (blk_cell BK149.out 2).trans rfl; have hfz17_0 := blk_frozen BK149.out 0; have hfz17_1 := blk_frozen BK149.out 1; have hfz17_2 := blk_frozen BK149.out 2) | ((with_reducible refine gate_builtin (b := .append) (xs := #[.tmp 43, .tmp 45]) rfl ?_); at_builtin; refine Kd.R_append k32 (w0 := w) w.heap.size rfl (.tmp 43) (.tmp 45) 33 32 (.agg #[(.bool false), (.int .i64 0), (.int .i64 0)]) 24 rfl Tryz.underlying33 info32 rfl (by decide) (by omega) u9 x9_1 (⟨t144, t145, t146⟩ : S32) [.bool t144, .int .i64 t145, .int .i64 t146] (fun k_ => k_ ≠ gb149) (fun _ => False) rfl (by first | (go_simp; done) | (go_simp; rfl)) ?aP (fun _ hk => hk.elim) ?aF ?aO ?aB ?aS ?aL ?_; (case aP => exact k32_mkM _ _ _ (⟨t144, t145, t146⟩ : S32)); (case aB => exact (by repeat (first | (with_reducible first | exact HB.out | apply below_alloc | apply pw_below_drewN | apply below_drew1 | refine below_set ?_ GE149.out) | exact HB.out))); (case aF => exact (fun k_ hk => Kd.freshB (g := gb149) (o := .cells #[.bool t144, .int .i64 t145, .int .i64 t146] 32 (0, 0)) (by (with_reducible repeat (first | refine blk_drewN ?_ _ | refine blk_drew ?_ | refine blk_alloc ?_ _)); refine blk_put (cs := #[.bool t144, .int .i64 t145, .int .i64 0]) ?_ 2 _ rfl; (with_reducible repeat (first | refine blk_drewN ?_ _ | refine blk_drew ?_ | refine blk_alloc ?_ _)); refine blk_put (cs := #[.bool t144, .int .i64 0, .int .i64 0]) ?_ 1 _ rfl; (with_reducible repeat (first | refine blk_drewN ?_ _ | refine blk_drew ?_ | refine blk_alloc ?_ _)); refine blk_put (cs := #[.bool false, .int .i64 0, .int .i64 0]) ?_ 0 _ rfl; (with_reducible repeat (first | refine blk_drewN ?_ _ | refine blk_drew ?_ | refine blk_alloc ?_ _)); exact BK149.out) k_ hk)); (case aO => exact (by (with_reducible repeat (first | apply Kd.R_alloc | apply Kd.R_drewN | apply Kd.R_drew)); exact Kd.R_mono (Kd.R_far (p := ⟨gb149, 2, none⟩) (Kd.R_far (p := ⟨gb149, 1, none⟩) (Kd.R_far (p := ⟨gb149, 0, none⟩) (Kd.R_mono HO_9.out (fun k_ hk => (⟨hk, hk.2⟩ : _ ∧ k_ ≠ gb149))) (fun _ hk => hk.2) (.bool t144)) (fun _ hk => hk.2) (.int .i64 t145)) (fun _ hk => hk.2) (.int .i64 t146)) (fun _ hk => hk.1.2))); (case aS => exact (below_size (by repeat (first | (with_reducible first | exact HB.out | apply below_alloc | apply pw_below_drewN | apply below_drew1 | refine below_set ?_ GE149.out) | exact HB.out)))); (case aL => have := LMc14.out; omega); intro v151 w18 ho hb hg hat; rw [← Ny150.out] at ho; have n0_ := Aside0.mk (blk_grown (g := gb149) (o := .cells #[.bool t144, .int .i64 t145, .int .i64 t146] 32 (0, 0)) (by (with_reducible repeat (first | refine blk_drewN ?_ _ | refine blk_drew ?_ | refine blk_alloc ?_ _)); refine blk_put (cs := #[.bool t144, .int .i64 t145, .int .i64 0]) ?_ 2 _ rfl; (with_reducible repeat (first | refine blk_drewN ?_ _ | refine blk_drew ?_ | refine blk_alloc ?_ _)); refine blk_put (cs := #[.bool t144, .int .i64 0, .int .i64 0]) ?_ 1 _ rfl; (with_reducible repeat (first | refine blk_drewN ?_ _ | refine blk_drew ?_ | refine blk_alloc ?_ _)); refine blk_put (cs := #[.bool false, .int .i64 0, .int .i64 0]) ?_ 0 _ rfl; (with_reducible repeat (first | refine blk_drewN ?_ _ | refine blk_drew ?_ | refine blk_alloc ?_ _)); exact BK149.out) hg (Kd.R_away HO_9.out (fun _ hk => hk.2))); have n1_ := Aside0.mk (hb); have n2_ := Aside0.mk (ho); clear BK149; clear HB; clear HO_9; have BK149 := n0_; have HB := n1_; have HO152 := n2_; clear n0_ n1_ n2_; clear ho hb hg hat))
                      go_roundg k1
                      case measure => have := HK1.out; omega
                      case rel => exact ⟨(y150), (wrap64 (x10_1 + t147)), (IntKind.u64.wrap (x29_1 + 1)), (by first | rfl | (simp; done) | (simp [*]; done)), (by first | rfl | (simp; done) | (simp [*]; done)), H', ⟨by have := HK1.out; omega⟩, ⟨by (with_reducible repeat (first | apply Kd.R_alloc | apply Kd.R_drewN | apply Kd.R_drew)); exact Kd.R_mono HO152.out (fun _ hk => trivial)⟩, ⟨by repeat (first | (with_reducible first | exact HB.out | apply below_alloc | apply pw_below_drewN | apply below_drew1 | refine below_set ?_ GE149.out) | exact HB.out)⟩⟩
                    · rw [if_neg c14] at H
                      exact absurd H (by simp)
                  · rw [if_neg c13] at H
                    have c13b0 : (t148 == 0) = false := beq_eq_false_iff_ne.mpr c13
                    have c13b1 : (t148 != 0) = true := bne_iff_ne.mpr c13
                    simp only [Option.some.injEq, Prod.mk.injEq] at H
                    obtain ⟨rfl, rfl, rfl⟩ := H
                    go_wp2_with (first | ((with_reducible refine gate_callee (f := 58) rfl ?_); refine goesL_ (some 36) rfl rfl Tryz.func58 (by kernel_rfl) rfl #[.int .i64 a0, .string (a1.extract (x10_1 : Int).toNat a1.size)] rfl (by (try simp only [List.map_toArray, List.map_cons, List.map_nil]); first | done | rfl | (simp only [List.length_drop, List.length_take]; rfl)) ?_; (with_reducible refine (spec_CodSpanRead.calls k1 a0 (a1.extract (x10_1 : Int).toNat a1.size) t144 t145 t146 t147 t148 _ A12.out).mono ?_); rintro e w19 ⟨rfl, hb⟩; refine ⟨_, rfl, ?_⟩; have n0_ := Aside0.mk (Kd.R_below (by (with_reducible repeat (first | apply Kd.R_alloc | apply Kd.R_drewN | apply Kd.R_drew)); exact HO_9.out) hb); have n1_ := Aside0.mk (below_step (by repeat (first | (with_reducible first | exact HB.out | apply below_alloc | apply pw_below_drewN | apply below_drew1) | exact HB.out)) hb); clear HO_9; clear HB; have HO_9 := n0_; have HB := n1_; clear n0_ n1_; (try clear hb); (try clear hb2); (try clear hk); (try clear hi)) | ((with_reducible refine gate_dst (N := 11) rfl ?_); refine box_event ?hg (N := 11) ?hd (cs := #[.bool false, .int .i64 0, .int .i64 0]) (t := 32) ?hr ?_; (case hd => rfl); (case hg => rfl); (case hr => first | (go_simp; done) | (go_simp; rfl)); intro gb149 hg w20 hbox hb; have n0_ := Aside0.mk (Kd.R_below (Kd.R_elderB (by (with_reducible repeat (first | apply Kd.R_alloc | apply Kd.R_drewN | apply Kd.R_drew)); exact HO_9.out) gb149 (Nat.le_of_eq hg.symm)) hb); have n1_ := Aside0.mk (below_step (by repeat (first | (with_reducible first | exact HB.out | apply below_alloc | apply pw_below_drewN | apply below_drew1) | exact HB.out)) hb); have n2_ := Aside0.mk (hbox); have n3_ := Aside0.mk ((by rw [hg]; exact (below_size (by repeat (first | (with_reducible first | exact HB.out | apply below_alloc | apply pw_below_drewN | apply below_drew1) | exact HB.out))) : w.heap.size ≤ gb149)); have n4_ := Aside0.mk ((by rw [hg]; exact (below_size (by repeat (first | (with_reducible first | exact HB.out | apply below_alloc | apply pw_below_drewN | apply below_drew1) | exact HB.out))) : w.heap.size ≤ gb149)); clear HO_9; clear HB; have HO_9 := n0_; have HB := n1_; have BK149 := n2_; have GW149 := n3_; have GE149 := n4_; clear n0_ n1_ n2_ n3_ n4_; clear hb hbox hg; have hcz21_0 : w20.cell? ⟨gb149, 0, none⟩ = some (.bool false) := (blk_cell BK149.out 0).trans rfl; have hcz21_1 : w20.cell? ⟨gb149, 1, none⟩ = some (.int .i64 0) := (blk_cell BK149.out 1).trans rfl; have hcz21_2 : w20.cell? ⟨gb149, 2, none⟩ = some (.int .i64 0) := (blk_cell BK149.out 2).trans rfl; have hfz21_0 := blk_frozen BK149.out 0; have hfz21_1 := blk_frozen BK149.out 1; have hfz21_2 := blk_frozen BK149.out 2))
                    go_ret3
                    exact ⟨_, by first | rfl | (simp [errW_none, errW_some] <;> rfl) | (simp [*, errW_none, errW_some] <;> rfl), by first | exact Kd.R_nil _ _ _ _ _ | exact Kd.N_nil _ _ _ _ _ | exact Kd.V_nil _ _ _ _ _ | exact Kd.Q_nil _ _ _ _ _ | exact Kd.S_nil _ _ _ _ _, by repeat (first | (with_reducible first | exact HB.out | apply below_alloc | apply pw_below_drewN | apply below_drew1 | refine below_set ?_ GE149.out) | exact HB.out)⟩
                · rw [if_neg c11] at H
                  exact absurd H (by simp)
              · rw [if_neg c10] at H
                exact absurd H (by simp)
            · rw [if_neg c9] at H
              have c9b0 : decide (x29_1 < t139) = false := decide_eq_false c9
              clear c9
              simp only [Option.some.injEq, Prod.mk.injEq] at H
              obtain ⟨rfl, rfl, rfl⟩ := H
              go_wp2
              go_ret3
              exact ⟨_, by first | rfl | (simp [errW_none, errW_some] <;> rfl) | (simp [*, errW_none, errW_some] <;> rfl), by (with_reducible repeat (first | apply Kd.R_alloc | apply Kd.R_drewN | apply Kd.R_drew)); exact HO_9.out, by repeat (first | (with_reducible first | exact HB.out | apply below_alloc | apply pw_below_drewN | apply below_drew1) | exact HB.out)⟩
  · rw [if_neg c4] at H
    have c4b0 : (t140 == 0) = false := beq_eq_false_iff_ne.mpr c4
    have c4b1 : (t140 != 0) = true := bne_iff_ne.mpr c4
    simp only [Option.some.injEq, Prod.mk.injEq] at H
    obtain ⟨rfl, rfl, rfl⟩ := H
    go_enter Tryz.func28, Tryz.ntmps28
    go_wp2_with (first | ((with_reducible refine gate_callee (f := 57) rfl ?_); refine goesL_ (some 16) rfl rfl Tryz.func57 (by kernel_rfl) rfl #[.string a1, .int .i64 4] rfl (by (try simp only [List.map_toArray, List.map_cons, List.map_nil]); first | done | rfl | (simp only [List.length_drop, List.length_take]; rfl)) ?_; (with_reducible refine (spec_codNumber.calls k a1 4 t139 t140 _ A3.out).mono ?_); rintro e w' ⟨rfl, ⟨nd, rfl⟩⟩; refine ⟨_, rfl, ?_⟩))
    go_ret3
    exact ⟨_, by first | rfl | (simp [errW_none, errW_some] <;> rfl) | (simp [*, errW_none, errW_some] <;> rfl), by first | exact Kd.R_nil _ _ _ _ _ | exact Kd.N_nil _ _ _ _ _ | exact Kd.V_nil _ _ _ _ _ | exact Kd.Q_nil _ _ _ _ _ | exact Kd.S_nil _ _ _ _ _, by repeat (first | (with_reducible first | exact HB.out | apply below_alloc | apply pw_below_drewN | apply below_drew1) | exact HB.out)⟩
end Go.Proofs.YtgdbeiadlgkedaaGreatDoor.PFnWindowsRead
