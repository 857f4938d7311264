/- Contracts and plain laws, several texts in one. -/
import Derived.Test.YtgdbeiadlgkedaaDoorMDecode4
import Derived.Handy
set_option linter.unusedVariables false
set_option linter.unusedSimpArgs false
namespace Go.Proofs.YtgdbeiadlgkedaaDoor.PFnEncode
open Go.RowKit Go.Proofs.YtgdbeiadlgkedaaDoorW.PrintWords Go.Proofs.YtgdbeiadlgkedaaDoorW.PrintLast Go.Proofs.YtgdbeiadlgkedaaDoorW.PrintMore
mutual
def spec_codBare.j0 : Nat → Int → Bool → Int → Bool → Int → Int → Int → ByteArray → Int → Bool → Bool → Int → Int → Int → Bool → Int → Int → Int → ByteArray → Int → Bool → Bool → Int → Int → Option (Int × Bool × Int × Int × Int × ByteArray × Int × Bool × Bool × Int × Int)
  | 0, _, _, _, _, _, _, _, _, _, _, _, _, _, _, _, _, _, _, _, _, _, _, _, _ => none
  | k + 1, x8, x14, x130000, x130001, x130002, x130003, x130004, x130005, x130006, x130007, x130008, x130009, x130010, x132000, x132001, x132002, x132003, x132004, x132005, x132006, x132007, x132008, x132009, x132010 => if x14 = true then (some (x132000, x132001, x130002, x132003, x132004, x132005, x132006, x132007, x132008, x132009, x132010)) else (if x8 = 2 then (spec_codBare.j1 k x8 (x8 == 2) x130000 x130001 x130002 x130003 x130004 x130005 x130006 x130007 x130008 x130009 x130010 x132000 x132001 x132002 x132003 x132004 x132005 x132006 x132007 x132008 x132009 x132010) else (spec_codBare.j1 k x8 (x8 == 8) x130000 x130001 x130002 x130003 x130004 x130005 x130006 x130007 x130008 x130009 x130010 x132000 x132001 x132002 x132003 x132004 x132005 x132006 x132007 x132008 x132009 x132010))
def spec_codBare.j1 : Nat → Int → Bool → Int → Bool → Int → Int → Int → ByteArray → Int → Bool → Bool → Int → Int → Int → Bool → Int → Int → Int → ByteArray → Int → Bool → Bool → Int → Int → Option (Int × Bool × Int × Int × Int × ByteArray × Int × Bool × Bool × Int × Int)
  | 0, _, _, _, _, _, _, _, _, _, _, _, _, _, _, _, _, _, _, _, _, _, _, _, _ => none
  | k + 1, x8, x22, x130000, x130001, x130002, x130003, x130004, x130005, x130006, x130007, x130008, x130009, x130010, x132000, x132001, x132002, x132003, x132004, x132005, x132006, x132007, x132008, x132009, x132010 => if x22 = true then (some (x132000, x132001, x132002, x132003, x132004, x130005, x132006, x132007, x132008, x132009, x132010)) else (if x8 = 3 then (spec_codBare.j2 k x8 (x8 == 3) x130000 x130001 x130002 x130003 x130004 x130005 x130006 x130007 x130008 x130009 x130010 x132000 x132001 x132002 x132003 x132004 x132005 x132006 x132007 x132008 x132009 x132010) else (spec_codBare.j2 k x8 (x8 == 7) x130000 x130001 x130002 x130003 x130004 x130005 x130006 x130007 x130008 x130009 x130010 x132000 x132001 x132002 x132003 x132004 x132005 x132006 x132007 x132008 x132009 x132010))
def spec_codBare.j2 : Nat → Int → Bool → Int → Bool → Int → Int → Int → ByteArray → Int → Bool → Bool → Int → Int → Int → Bool → Int → Int → Int → ByteArray → Int → Bool → Bool → Int → Int → Option (Int × Bool × Int × Int × Int × ByteArray × Int × Bool × Bool × Int × Int)
  | 0, _, _, _, _, _, _, _, _, _, _, _, _, _, _, _, _, _, _, _, _, _, _, _, _ => none
  | k + 1, x8, x28, x130000, x130001, x130002, x130003, x130004, x130005, x130006, x130007, x130008, x130009, x130010, x132000, x132001, x132002, x132003, x132004, x132005, x132006, x132007, x132008, x132009, x132010 => if x28 = true then (some (x132000, x132001, x132002, x132003, x130004, x132005, x132006, x132007, x132008, x132009, x132010)) else (if x8 = 6 then (some (x132000, x132001, x132002, x132003, x132004, x132005, x130006, x130007, x130008, x130009, x130010)) else (if x8 = 9 then (some (x132000, x132001, x132002, x130003, x132004, x132005, x132006, x132007, x132008, x132009, x132010)) else (if x8 = 10 then (some (x132000, x132001, x132002, x130003, x132004, x132005, x132006, x132007, x132008, x132009, x132010)) else (if x8 = 12 then (some (x132000, x132001, x132002, x130003, x132004, x132005, x132006, x132007, x132008, x132009, x132010)) else (some (x132000, x132001, x132002, x132003, x132004, x132005, x132006, x132007, x132008, x132009, x132010))))))
end
def spec_codBare.f (k : Nat) (a0_0 : Int) (a0_1 : Bool) (a0_2 : Int) (a0_3 : Int) (a0_4 : Int) (a0_5 : ByteArray) (a0_6 : Int) (a0_7 : Bool) (a0_8 : Bool) (a0_9 : Int) (a0_10 : Int) : Option (Int × Bool × Int × Int × Int × ByteArray × Int × Bool × Bool × Int × Int) := if a0_0 = 0 then (some (a0_0, a0_1, 0, 0, 0, (⟨#[]⟩ : ByteArray), 0, false, false, 0, 0)) else (if a0_0 = 1 then (spec_codBare.j0 k a0_0 (a0_0 == 1) a0_0 a0_1 a0_2 a0_3 a0_4 a0_5 a0_6 a0_7 a0_8 a0_9 a0_10 a0_0 false 0 0 0 (⟨#[]⟩ : ByteArray) 0 false false 0 0) else (if a0_0 = 4 then (spec_codBare.j0 k a0_0 (a0_0 == 4) a0_0 a0_1 a0_2 a0_3 a0_4 a0_5 a0_6 a0_7 a0_8 a0_9 a0_10 a0_0 false 0 0 0 (⟨#[]⟩ : ByteArray) 0 false false 0 0) else (if a0_0 = 5 then (spec_codBare.j0 k a0_0 (a0_0 == 5) a0_0 a0_1 a0_2 a0_3 a0_4 a0_5 a0_6 a0_7 a0_8 a0_9 a0_10 a0_0 false 0 0 0 (⟨#[]⟩ : ByteArray) 0 false false 0 0) else (spec_codBare.j0 k a0_0 (a0_0 == 11) a0_0 a0_1 a0_2 a0_3 a0_4 a0_5 a0_6 a0_7 a0_8 a0_9 a0_10 a0_0 false 0 0 0 (⟨#[]⟩ : ByteArray) 0 false false 0 0))))
theorem spec_codBare.mono_l : ∀ k, (∀ y0 y1 y2 y3 y4 y5 y6 y7 y8 y9 y10 y11 y12 y13 y14 y15 y16 y17 y18 y19 y20 y21 y22 y23, LeO (spec_codBare.j0 k y0 y1 y2 y3 y4 y5 y6 y7 y8 y9 y10 y11 y12 y13 y14 y15 y16 y17 y18 y19 y20 y21 y22 y23) (spec_codBare.j0 (k + 1) y0 y1 y2 y3 y4 y5 y6 y7 y8 y9 y10 y11 y12 y13 y14 y15 y16 y17 y18 y19 y20 y21 y22 y23)) ∧ (∀ y0 y1 y2 y3 y4 y5 y6 y7 y8 y9 y10 y11 y12 y13 y14 y15 y16 y17 y18 y19 y20 y21 y22 y23, LeO (spec_codBare.j1 k y0 y1 y2 y3 y4 y5 y6 y7 y8 y9 y10 y11 y12 y13 y14 y15 y16 y17 y18 y19 y20 y21 y22 y23) (spec_codBare.j1 (k + 1) y0 y1 y2 y3 y4 y5 y6 y7 y8 y9 y10 y11 y12 y13 y14 y15 y16 y17 y18 y19 y20 y21 y22 y23)) ∧ (∀ y0 y1 y2 y3 y4 y5 y6 y7 y8 y9 y10 y11 y12 y13 y14 y15 y16 y17 y18 y19 y20 y21 y22 y23, LeO (spec_codBare.j2 k y0 y1 y2 y3 y4 y5 y6 y7 y8 y9 y10 y11 y12 y13 y14 y15 y16 y17 y18 y19 y20 y21 y22 y23) (spec_codBare.j2 (k + 1) y0 y1 y2 y3 y4 y5 y6 y7 y8 y9 y10 y11 y12 y13 y14 y15 y16 y17 y18 y19 y20 y21 y22 y23))
  | 0 => ⟨fun _ _ _ _ _ _ _ _ _ _ _ _ _ _ _ _ _ _ _ _ _ _ _ _ r h => by simp [spec_codBare.j0] at h, fun _ _ _ _ _ _ _ _ _ _ _ _ _ _ _ _ _ _ _ _ _ _ _ _ r h => by simp [spec_codBare.j1] at h, fun _ _ _ _ _ _ _ _ _ _ _ _ _ _ _ _ _ _ _ _ _ _ _ _ r h => by simp [spec_codBare.j2] at h⟩
  | k + 1 => by
    obtain ⟨ih0, ih1, ih2⟩ := spec_codBare.mono_l k
    refine ⟨?_, ?_, ?_⟩
    · intro y0 y1 y2 y3 y4 y5 y6 y7 y8 y9 y10 y11 y12 y13 y14 y15 y16 y17 y18 y19 y20 y21 y22 y23
      unfold spec_codBare.j0
      repeat' first
      | (with_reducible exact ih0 _ _ _ _ _ _ _ _ _ _ _ _ _ _ _ _ _ _ _ _ _ _ _ _)
      | (with_reducible exact ih1 _ _ _ _ _ _ _ _ _ _ _ _ _ _ _ _ _ _ _ _ _ _ _ _)
      | (with_reducible exact ih2 _ _ _ _ _ _ _ _ _ _ _ _ _ _ _ _ _ _ _ _ _ _ _ _)
      | (with_reducible exact LeO.refl _)
      | (with_reducible exact LeO.none _)
      | (with_reducible refine LeO.ite ?_ ?_)
      | (with_reducible refine LeO.bind ?_ (fun _ => ?_))
      | exact ih0 _ _ _ _ _ _ _ _ _ _ _ _ _ _ _ _ _ _ _ _ _ _ _ _
      | exact ih1 _ _ _ _ _ _ _ _ _ _ _ _ _ _ _ _ _ _ _ _ _ _ _ _
      | exact ih2 _ _ _ _ _ _ _ _ _ _ _ _ _ _ _ _ _ _ _ _ _ _ _ _
      | exact LeO.none _
      | refine LeO.ite ?_ ?_
      | refine LeO.bind ?_ (fun _ => ?_)
    · intro y0 y1 y2 y3 y4 y5 y6 y7 y8 y9 y10 y11 y12 y13 y14 y15 y16 y17 y18 y19 y20 y21 y22 y23
      unfold spec_codBare.j1
      repeat' first
      | (with_reducible exact ih0 _ _ _ _ _ _ _ _ _ _ _ _ _ _ _ _ _ _ _ _ _ _ _ _)
      | (with_reducible exact ih1 _ _ _ _ _ _ _ _ _ _ _ _ _ _ _ _ _ _ _ _ _ _ _ _)
      | (with_reducible exact ih2 _ _ _ _ _ _ _ _ _ _ _ _ _ _ _ _ _ _ _ _ _ _ _ _)
      | (with_reducible exact LeO.refl _)
      | (with_reducible exact LeO.none _)
      | (with_reducible refine LeO.ite ?_ ?_)
      | (with_reducible refine LeO.bind ?_ (fun _ => ?_))
      | exact ih0 _ _ _ _ _ _ _ _ _ _ _ _ _ _ _ _ _ _ _ _ _ _ _ _
      | exact ih1 _ _ _ _ _ _ _ _ _ _ _ _ _ _ _ _ _ _ _ _ _ _ _ _
      | exact ih2 _ _ _ _ _ _ _ _ _ _ _ _ _ _ _ _ _ _ _ _ _ _ _ _
      | exact LeO.none _
      | refine LeO.ite ?_ ?_
      | refine LeO.bind ?_ (fun _ => ?_)
    · intro y0 y1 y2 y3 y4 y5 y6 y7 y8 y9 y10 y11 y12 y13 y14 y15 y16 y17 y18 y19 y20 y21 y22 y23
      unfold spec_codBare.j2
      repeat' first
      | (with_reducible exact ih0 _ _ _ _ _ _ _ _ _ _ _ _ _ _ _ _ _ _ _ _ _ _ _ _)
      | (with_reducible exact ih1 _ _ _ _ _ _ _ _ _ _ _ _ _ _ _ _ _ _ _ _ _ _ _ _)
      | (with_reducible exact ih2 _ _ _ _ _ _ _ _ _ _ _ _ _ _ _ _ _ _ _ _ _ _ _ _)
      | (with_reducible exact LeO.refl _)
      | (with_reducible exact LeO.none _)
      | (with_reducible refine LeO.ite ?_ ?_)
      | (with_reducible refine LeO.bind ?_ (fun _ => ?_))
      | exact ih0 _ _ _ _ _ _ _ _ _ _ _ _ _ _ _ _ _ _ _ _ _ _ _ _
      | exact ih1 _ _ _ _ _ _ _ _ _ _ _ _ _ _ _ _ _ _ _ _ _ _ _ _
      | exact ih2 _ _ _ _ _ _ _ _ _ _ _ _ _ _ _ _ _ _ _ _ _ _ _ _
      | exact LeO.none _
      | refine LeO.ite ?_ ?_
      | refine LeO.bind ?_ (fun _ => ?_)
theorem spec_codBare.mono : ∀ a0 a1 a2 a3 a4 a5 a6 a7 a8 a9 a10 k, LeO (spec_codBare.f k a0 a1 a2 a3 a4 a5 a6 a7 a8 a9 a10) (spec_codBare.f (k + 1) a0 a1 a2 a3 a4 a5 a6 a7 a8 a9 a10) := by
  intro a0 a1 a2 a3 a4 a5 a6 a7 a8 a9 a10 k
  obtain ⟨ih0, ih1, ih2⟩ := spec_codBare.mono_l k
  unfold spec_codBare.f
  repeat' first
      | (with_reducible exact ih0 _ _ _ _ _ _ _ _ _ _ _ _ _ _ _ _ _ _ _ _ _ _ _ _)
      | (with_reducible exact ih1 _ _ _ _ _ _ _ _ _ _ _ _ _ _ _ _ _ _ _ _ _ _ _ _)
      | (with_reducible exact ih2 _ _ _ _ _ _ _ _ _ _ _ _ _ _ _ _ _ _ _ _ _ _ _ _)
      | (with_reducible exact LeO.refl _)
      | (with_reducible exact LeO.none _)
      | (with_reducible refine LeO.ite ?_ ?_)
      | (with_reducible refine LeO.bind ?_ (fun _ => ?_))
      | exact ih0 _ _ _ _ _ _ _ _ _ _ _ _ _ _ _ _ _ _ _ _ _ _ _ _
      | exact ih1 _ _ _ _ _ _ _ _ _ _ _ _ _ _ _ _ _ _ _ _ _ _ _ _
      | exact ih2 _ _ _ _ _ _ _ _ _ _ _ _ _ _ _ _ _ _ _ _ _ _ _ _
      | exact LeO.none _
      | refine LeO.ite ?_ ?_
      | refine LeO.bind ?_ (fun _ => ?_)
theorem bare_is0 (k : Nat) (a0_1 : Bool) (a0_2 : Int) (a0_3 : Int) (a0_4 : Int) (a0_5 : ByteArray) (a0_6 : Int) (a0_7 : Bool) (a0_8 : Bool) (a0_9 : Int) (a0_10 : Int) (r : Int × Bool × Int × Int × Int × ByteArray × Int × Bool × Bool × Int × Int) (h : spec_codBare.f k 0 a0_1 a0_2 a0_3 a0_4 a0_5 a0_6 a0_7 a0_8 a0_9 a0_10 = some r) : r = (0, a0_1, 0, 0, 0, (⟨#[]⟩ : ByteArray), 0, false, false, 0, 0) := by
  simpa [spec_codBare.f] using h.symm
set_option maxHeartbeats 4000000 in
set_option maxRecDepth 100000 in
theorem bare_calls0 (a0_1 : Bool) (a0_2 : Int) (a0_3 : Int) (a0_4 : Int) (a0_5 : ByteArray) (a0_6 : Int) (a0_7 : Bool) (a0_8 : Bool) (a0_9 : Int) (a0_10 : Int) (w : World) :
    Calls Tryd.prog 100 #[.agg #[.int .i64 0, .bool a0_1, .int .i64 a0_2, .int .u64 a0_3, .int .u64 a0_4, .string a0_5, .int .i64 a0_6, .bool a0_7, .bool a0_8, .int .i64 a0_9, .int .i64 a0_10]] w fun e w' => e = .returned (.agg #[.int .i64 0, .bool a0_1, .int .i64 0, .int .u64 0, .int .u64 0, .string (⟨#[]⟩ : ByteArray), .int .i64 0, .bool false, .bool false, .int .i64 0, .int .i64 0]) ∧ Below w.heap.size w w' := by
  go_enter Tryd.func100, Tryd.ntmps100
  go_wp2
  go_returns
  exact ⟨rfl, by repeat (first | exact Below.refl _ _ | apply below_alloc | apply below_drew | refine below_set ?_ (by simp) | (refine Below.setCell ?_ (by simp) _))⟩
theorem bare_is1 (k : Nat) (a0_1 : Bool) (a0_2 : Int) (a0_3 : Int) (a0_4 : Int) (a0_5 : ByteArray) (a0_6 : Int) (a0_7 : Bool) (a0_8 : Bool) (a0_9 : Int) (a0_10 : Int) (r : Int × Bool × Int × Int × Int × ByteArray × Int × Bool × Bool × Int × Int) (h : spec_codBare.f k 1 a0_1 a0_2 a0_3 a0_4 a0_5 a0_6 a0_7 a0_8 a0_9 a0_10 = some r) : r = (1, false, a0_2, 0, 0, (⟨#[]⟩ : ByteArray), 0, false, false, 0, 0) := by
  rcases k with _ | _ | _ | k
  all_goals (simp [spec_codBare.f, spec_codBare.j0, spec_codBare.j1, spec_codBare.j2] at h; try exact h.symm)
set_option maxHeartbeats 4000000 in
set_option maxRecDepth 100000 in
theorem bare_calls1 (a0_1 : Bool) (a0_2 : Int) (a0_3 : Int) (a0_4 : Int) (a0_5 : ByteArray) (a0_6 : Int) (a0_7 : Bool) (a0_8 : Bool) (a0_9 : Int) (a0_10 : Int) (w : World) :
    Calls Tryd.prog 100 #[.agg #[.int .i64 1, .bool a0_1, .int .i64 a0_2, .int .u64 a0_3, .int .u64 a0_4, .string a0_5, .int .i64 a0_6, .bool a0_7, .bool a0_8, .int .i64 a0_9, .int .i64 a0_10]] w fun e w' => e = .returned (.agg #[.int .i64 1, .bool false, .int .i64 a0_2, .int .u64 0, .int .u64 0, .string (⟨#[]⟩ : ByteArray), .int .i64 0, .bool false, .bool false, .int .i64 0, .int .i64 0]) ∧ Below w.heap.size w w' := by
  go_enter Tryd.func100, Tryd.ntmps100
  go_wp2
  go_returns
  exact ⟨rfl, by repeat (first | exact Below.refl _ _ | apply below_alloc | apply below_drew | refine below_set ?_ (by simp) | (refine Below.setCell ?_ (by simp) _))⟩
theorem bare_is2 (k : Nat) (a0_1 : Bool) (a0_2 : Int) (a0_3 : Int) (a0_4 : Int) (a0_5 : ByteArray) (a0_6 : Int) (a0_7 : Bool) (a0_8 : Bool) (a0_9 : Int) (a0_10 : Int) (r : Int × Bool × Int × Int × Int × ByteArray × Int × Bool × Bool × Int × Int) (h : spec_codBare.f k 2 a0_1 a0_2 a0_3 a0_4 a0_5 a0_6 a0_7 a0_8 a0_9 a0_10 = some r) : r = (2, false, 0, 0, 0, a0_5, 0, false, false, 0, 0) := by
  rcases k with _ | _ | _ | k
  all_goals (simp [spec_codBare.f, spec_codBare.j0, spec_codBare.j1, spec_codBare.j2] at h; try exact h.symm)
set_option maxHeartbeats 4000000 in
set_option maxRecDepth 100000 in
theorem bare_calls2 (a0_1 : Bool) (a0_2 : Int) (a0_3 : Int) (a0_4 : Int) (a0_5 : ByteArray) (a0_6 : Int) (a0_7 : Bool) (a0_8 : Bool) (a0_9 : Int) (a0_10 : Int) (w : World) :
    Calls Tryd.prog 100 #[.agg #[.int .i64 2, .bool a0_1, .int .i64 a0_2, .int .u64 a0_3, .int .u64 a0_4, .string a0_5, .int .i64 a0_6, .bool a0_7, .bool a0_8, .int .i64 a0_9, .int .i64 a0_10]] w fun e w' => e = .returned (.agg #[.int .i64 2, .bool false, .int .i64 0, .int .u64 0, .int .u64 0, .string a0_5, .int .i64 0, .bool false, .bool false, .int .i64 0, .int .i64 0]) ∧ Below w.heap.size w w' := by
  go_enter Tryd.func100, Tryd.ntmps100
  go_wp2
  go_returns
  exact ⟨rfl, by repeat (first | exact Below.refl _ _ | apply below_alloc | apply below_drew | refine below_set ?_ (by simp) | (refine Below.setCell ?_ (by simp) _))⟩
theorem bare_is3 (k : Nat) (a0_1 : Bool) (a0_2 : Int) (a0_3 : Int) (a0_4 : Int) (a0_5 : ByteArray) (a0_6 : Int) (a0_7 : Bool) (a0_8 : Bool) (a0_9 : Int) (a0_10 : Int) (r : Int × Bool × Int × Int × Int × ByteArray × Int × Bool × Bool × Int × Int) (h : spec_codBare.f k 3 a0_1 a0_2 a0_3 a0_4 a0_5 a0_6 a0_7 a0_8 a0_9 a0_10 = some r) : r = (3, false, 0, 0, a0_4, (⟨#[]⟩ : ByteArray), 0, false, false, 0, 0) := by
  rcases k with _ | _ | _ | k
  all_goals (simp [spec_codBare.f, spec_codBare.j0, spec_codBare.j1, spec_codBare.j2] at h; try exact h.symm)
set_option maxHeartbeats 4000000 in
set_option maxRecDepth 100000 in
theorem bare_calls3 (a0_1 : Bool) (a0_2 : Int) (a0_3 : Int) (a0_4 : Int) (a0_5 : ByteArray) (a0_6 : Int) (a0_7 : Bool) (a0_8 : Bool) (a0_9 : Int) (a0_10 : Int) (w : World) :
    Calls Tryd.prog 100 #[.agg #[.int .i64 3, .bool a0_1, .int .i64 a0_2, .int .u64 a0_3, .int .u64 a0_4, .string a0_5, .int .i64 a0_6, .bool a0_7, .bool a0_8, .int .i64 a0_9, .int .i64 a0_10]] w fun e w' => e = .returned (.agg #[.int .i64 3, .bool false, .int .i64 0, .int .u64 0, .int .u64 a0_4, .string (⟨#[]⟩ : ByteArray), .int .i64 0, .bool false, .bool false, .int .i64 0, .int .i64 0]) ∧ Below w.heap.size w w' := by
  go_enter Tryd.func100, Tryd.ntmps100
  go_wp2
  go_returns
  exact ⟨rfl, by repeat (first | exact Below.refl _ _ | apply below_alloc | apply below_drew | refine below_set ?_ (by simp) | (refine Below.setCell ?_ (by simp) _))⟩
theorem bare_is4 (k : Nat) (a0_1 : Bool) (a0_2 : Int) (a0_3 : Int) (a0_4 : Int) (a0_5 : ByteArray) (a0_6 : Int) (a0_7 : Bool) (a0_8 : Bool) (a0_9 : Int) (a0_10 : Int) (r : Int × Bool × Int × Int × Int × ByteArray × Int × Bool × Bool × Int × Int) (h : spec_codBare.f k 4 a0_1 a0_2 a0_3 a0_4 a0_5 a0_6 a0_7 a0_8 a0_9 a0_10 = some r) : r = (4, false, a0_2, 0, 0, (⟨#[]⟩ : ByteArray), 0, false, false, 0, 0) := by
  rcases k with _ | _ | _ | k
  all_goals (simp [spec_codBare.f, spec_codBare.j0, spec_codBare.j1, spec_codBare.j2] at h; try exact h.symm)
set_option maxHeartbeats 4000000 in
set_option maxRecDepth 100000 in
theorem bare_calls4 (a0_1 : Bool) (a0_2 : Int) (a0_3 : Int) (a0_4 : Int) (a0_5 : ByteArray) (a0_6 : Int) (a0_7 : Bool) (a0_8 : Bool) (a0_9 : Int) (a0_10 : Int) (w : World) :
    Calls Tryd.prog 100 #[.agg #[.int .i64 4, .bool a0_1, .int .i64 a0_2, .int .u64 a0_3, .int .u64 a0_4, .string a0_5, .int .i64 a0_6, .bool a0_7, .bool a0_8, .int .i64 a0_9, .int .i64 a0_10]] w fun e w' => e = .returned (.agg #[.int .i64 4, .bool false, .int .i64 a0_2, .int .u64 0, .int .u64 0, .string (⟨#[]⟩ : ByteArray), .int .i64 0, .bool false, .bool false, .int .i64 0, .int .i64 0]) ∧ Below w.heap.size w w' := by
  go_enter Tryd.func100, Tryd.ntmps100
  go_wp2
  go_returns
  exact ⟨rfl, by repeat (first | exact Below.refl _ _ | apply below_alloc | apply below_drew | refine below_set ?_ (by simp) | (refine Below.setCell ?_ (by simp) _))⟩
theorem bare_is5 (k : Nat) (a0_1 : Bool) (a0_2 : Int) (a0_3 : Int) (a0_4 : Int) (a0_5 : ByteArray) (a0_6 : Int) (a0_7 : Bool) (a0_8 : Bool) (a0_9 : Int) (a0_10 : Int) (r : Int × Bool × Int × Int × Int × ByteArray × Int × Bool × Bool × Int × Int) (h : spec_codBare.f k 5 a0_1 a0_2 a0_3 a0_4 a0_5 a0_6 a0_7 a0_8 a0_9 a0_10 = some r) : r = (5, false, a0_2, 0, 0, (⟨#[]⟩ : ByteArray), 0, false, false, 0, 0) := by
  rcases k with _ | _ | _ | k
  all_goals (simp [spec_codBare.f, spec_codBare.j0, spec_codBare.j1, spec_codBare.j2] at h; try exact h.symm)
set_option maxHeartbeats 4000000 in
set_option maxRecDepth 100000 in
theorem bare_calls5 (a0_1 : Bool) (a0_2 : Int) (a0_3 : Int) (a0_4 : Int) (a0_5 : ByteArray) (a0_6 : Int) (a0_7 : Bool) (a0_8 : Bool) (a0_9 : Int) (a0_10 : Int) (w : World) :
    Calls Tryd.prog 100 #[.agg #[.int .i64 5, .bool a0_1, .int .i64 a0_2, .int .u64 a0_3, .int .u64 a0_4, .string a0_5, .int .i64 a0_6, .bool a0_7, .bool a0_8, .int .i64 a0_9, .int .i64 a0_10]] w fun e w' => e = .returned (.agg #[.int .i64 5, .bool false, .int .i64 a0_2, .int .u64 0, .int .u64 0, .string (⟨#[]⟩ : ByteArray), .int .i64 0, .bool false, .bool false, .int .i64 0, .int .i64 0]) ∧ Below w.heap.size w w' := by
  go_enter Tryd.func100, Tryd.ntmps100
  go_wp2
  go_returns
  exact ⟨rfl, by repeat (first | exact Below.refl _ _ | apply below_alloc | apply below_drew | refine below_set ?_ (by simp) | (refine Below.setCell ?_ (by simp) _))⟩
theorem bare_is6 (k : Nat) (a0_1 : Bool) (a0_2 : Int) (a0_3 : Int) (a0_4 : Int) (a0_5 : ByteArray) (a0_6 : Int) (a0_7 : Bool) (a0_8 : Bool) (a0_9 : Int) (a0_10 : Int) (r : Int × Bool × Int × Int × Int × ByteArray × Int × Bool × Bool × Int × Int) (h : spec_codBare.f k 6 a0_1 a0_2 a0_3 a0_4 a0_5 a0_6 a0_7 a0_8 a0_9 a0_10 = some r) : r = (6, false, 0, 0, 0, (⟨#[]⟩ : ByteArray), a0_6, a0_7, a0_8, a0_9, a0_10) := by
  rcases k with _ | _ | _ | k
  all_goals (simp [spec_codBare.f, spec_codBare.j0, spec_codBare.j1, spec_codBare.j2] at h; try exact h.symm)
set_option maxHeartbeats 4000000 in
set_option maxRecDepth 100000 in
theorem bare_calls6 (a0_1 : Bool) (a0_2 : Int) (a0_3 : Int) (a0_4 : Int) (a0_5 : ByteArray) (a0_6 : Int) (a0_7 : Bool) (a0_8 : Bool) (a0_9 : Int) (a0_10 : Int) (w : World) :
    Calls Tryd.prog 100 #[.agg #[.int .i64 6, .bool a0_1, .int .i64 a0_2, .int .u64 a0_3, .int .u64 a0_4, .string a0_5, .int .i64 a0_6, .bool a0_7, .bool a0_8, .int .i64 a0_9, .int .i64 a0_10]] w fun e w' => e = .returned (.agg #[.int .i64 6, .bool false, .int .i64 0, .int .u64 0, .int .u64 0, .string (⟨#[]⟩ : ByteArray), .int .i64 a0_6, .bool a0_7, .bool a0_8, .int .i64 a0_9, .int .i64 a0_10]) ∧ Below w.heap.size w w' := by
  go_enter Tryd.func100, Tryd.ntmps100
  go_wp2
  go_returns
  exact ⟨rfl, by repeat (first | exact Below.refl _ _ | apply below_alloc | apply below_drew | refine below_set ?_ (by simp) | (refine Below.setCell ?_ (by simp) _))⟩
theorem bare_is7 (k : Nat) (a0_1 : Bool) (a0_2 : Int) (a0_3 : Int) (a0_4 : Int) (a0_5 : ByteArray) (a0_6 : Int) (a0_7 : Bool) (a0_8 : Bool) (a0_9 : Int) (a0_10 : Int) (r : Int × Bool × Int × Int × Int × ByteArray × Int × Bool × Bool × Int × Int) (h : spec_codBare.f k 7 a0_1 a0_2 a0_3 a0_4 a0_5 a0_6 a0_7 a0_8 a0_9 a0_10 = some r) : r = (7, false, 0, 0, a0_4, (⟨#[]⟩ : ByteArray), 0, false, false, 0, 0) := by
  rcases k with _ | _ | _ | k
  all_goals (simp [spec_codBare.f, spec_codBare.j0, spec_codBare.j1, spec_codBare.j2] at h; try exact h.symm)
set_option maxHeartbeats 4000000 in
set_option maxRecDepth 100000 in
theorem bare_calls7 (a0_1 : Bool) (a0_2 : Int) (a0_3 : Int) (a0_4 : Int) (a0_5 : ByteArray) (a0_6 : Int) (a0_7 : Bool) (a0_8 : Bool) (a0_9 : Int) (a0_10 : Int) (w : World) :
    Calls Tryd.prog 100 #[.agg #[.int .i64 7, .bool a0_1, .int .i64 a0_2, .int .u64 a0_3, .int .u64 a0_4, .string a0_5, .int .i64 a0_6, .bool a0_7, .bool a0_8, .int .i64 a0_9, .int .i64 a0_10]] w fun e w' => e = .returned (.agg #[.int .i64 7, .bool false, .int .i64 0, .int .u64 0, .int .u64 a0_4, .string (⟨#[]⟩ : ByteArray), .int .i64 0, .bool false, .bool false, .int .i64 0, .int .i64 0]) ∧ Below w.heap.size w w' := by
  go_enter Tryd.func100, Tryd.ntmps100
  go_wp2
  go_returns
  exact ⟨rfl, by repeat (first | exact Below.refl _ _ | apply below_alloc | apply below_drew | refine below_set ?_ (by simp) | (refine Below.setCell ?_ (by simp) _))⟩
theorem bare_is8 (k : Nat) (a0_1 : Bool) (a0_2 : Int) (a0_3 : Int) (a0_4 : Int) (a0_5 : ByteArray) (a0_6 : Int) (a0_7 : Bool) (a0_8 : Bool) (a0_9 : Int) (a0_10 : Int) (r : Int × Bool × Int × Int × Int × ByteArray × Int × Bool × Bool × Int × Int) (h : spec_codBare.f k 8 a0_1 a0_2 a0_3 a0_4 a0_5 a0_6 a0_7 a0_8 a0_9 a0_10 = some r) : r = (8, false, 0, 0, 0, a0_5, 0, false, false, 0, 0) := by
  rcases k with _ | _ | _ | k
  all_goals (simp [spec_codBare.f, spec_codBare.j0, spec_codBare.j1, spec_codBare.j2] at h; try exact h.symm)
set_option maxHeartbeats 4000000 in
set_option maxRecDepth 100000 in
theorem bare_calls8 (a0_1 : Bool) (a0_2 : Int) (a0_3 : Int) (a0_4 : Int) (a0_5 : ByteArray) (a0_6 : Int) (a0_7 : Bool) (a0_8 : Bool) (a0_9 : Int) (a0_10 : Int) (w : World) :
    Calls Tryd.prog 100 #[.agg #[.int .i64 8, .bool a0_1, .int .i64 a0_2, .int .u64 a0_3, .int .u64 a0_4, .string a0_5, .int .i64 a0_6, .bool a0_7, .bool a0_8, .int .i64 a0_9, .int .i64 a0_10]] w fun e w' => e = .returned (.agg #[.int .i64 8, .bool false, .int .i64 0, .int .u64 0, .int .u64 0, .string a0_5, .int .i64 0, .bool false, .bool false, .int .i64 0, .int .i64 0]) ∧ Below w.heap.size w w' := by
  go_enter Tryd.func100, Tryd.ntmps100
  go_wp2
  go_returns
  exact ⟨rfl, by repeat (first | exact Below.refl _ _ | apply below_alloc | apply below_drew | refine below_set ?_ (by simp) | (refine Below.setCell ?_ (by simp) _))⟩
theorem bare_is9 (k : Nat) (a0_1 : Bool) (a0_2 : Int) (a0_3 : Int) (a0_4 : Int) (a0_5 : ByteArray) (a0_6 : Int) (a0_7 : Bool) (a0_8 : Bool) (a0_9 : Int) (a0_10 : Int) (r : Int × Bool × Int × Int × Int × ByteArray × Int × Bool × Bool × Int × Int) (h : spec_codBare.f k 9 a0_1 a0_2 a0_3 a0_4 a0_5 a0_6 a0_7 a0_8 a0_9 a0_10 = some r) : r = (9, false, 0, a0_3, 0, (⟨#[]⟩ : ByteArray), 0, false, false, 0, 0) := by
  rcases k with _ | _ | _ | k
  all_goals (simp [spec_codBare.f, spec_codBare.j0, spec_codBare.j1, spec_codBare.j2] at h; try exact h.symm)
set_option maxHeartbeats 4000000 in
set_option maxRecDepth 100000 in
theorem bare_calls9 (a0_1 : Bool) (a0_2 : Int) (a0_3 : Int) (a0_4 : Int) (a0_5 : ByteArray) (a0_6 : Int) (a0_7 : Bool) (a0_8 : Bool) (a0_9 : Int) (a0_10 : Int) (w : World) :
    Calls Tryd.prog 100 #[.agg #[.int .i64 9, .bool a0_1, .int .i64 a0_2, .int .u64 a0_3, .int .u64 a0_4, .string a0_5, .int .i64 a0_6, .bool a0_7, .bool a0_8, .int .i64 a0_9, .int .i64 a0_10]] w fun e w' => e = .returned (.agg #[.int .i64 9, .bool false, .int .i64 0, .int .u64 a0_3, .int .u64 0, .string (⟨#[]⟩ : ByteArray), .int .i64 0, .bool false, .bool false, .int .i64 0, .int .i64 0]) ∧ Below w.heap.size w w' := by
  go_enter Tryd.func100, Tryd.ntmps100
  go_wp2
  go_returns
  exact ⟨rfl, by repeat (first | exact Below.refl _ _ | apply below_alloc | apply below_drew | refine below_set ?_ (by simp) | (refine Below.setCell ?_ (by simp) _))⟩
theorem bare_is10 (k : Nat) (a0_1 : Bool) (a0_2 : Int) (a0_3 : Int) (a0_4 : Int) (a0_5 : ByteArray) (a0_6 : Int) (a0_7 : Bool) (a0_8 : Bool) (a0_9 : Int) (a0_10 : Int) (r : Int × Bool × Int × Int × Int × ByteArray × Int × Bool × Bool × Int × Int) (h : spec_codBare.f k 10 a0_1 a0_2 a0_3 a0_4 a0_5 a0_6 a0_7 a0_8 a0_9 a0_10 = some r) : r = (10, false, 0, a0_3, 0, (⟨#[]⟩ : ByteArray), 0, false, false, 0, 0) := by
  rcases k with _ | _ | _ | k
  all_goals (simp [spec_codBare.f, spec_codBare.j0, spec_codBare.j1, spec_codBare.j2] at h; try exact h.symm)
set_option maxHeartbeats 4000000 in
set_option maxRecDepth 100000 in
theorem bare_calls10 (a0_1 : Bool) (a0_2 : Int) (a0_3 : Int) (a0_4 : Int) (a0_5 : ByteArray) (a0_6 : Int) (a0_7 : Bool) (a0_8 : Bool) (a0_9 : Int) (a0_10 : Int) (w : World) :
    Calls Tryd.prog 100 #[.agg #[.int .i64 10, .bool a0_1, .int .i64 a0_2, .int .u64 a0_3, .int .u64 a0_4, .string a0_5, .int .i64 a0_6, .bool a0_7, .bool a0_8, .int .i64 a0_9, .int .i64 a0_10]] w fun e w' => e = .returned (.agg #[.int .i64 10, .bool false, .int .i64 0, .int .u64 a0_3, .int .u64 0, .string (⟨#[]⟩ : ByteArray), .int .i64 0, .bool false, .bool false, .int .i64 0, .int .i64 0]) ∧ Below w.heap.size w w' := by
  go_enter Tryd.func100, Tryd.ntmps100
  go_wp2
  go_returns
  exact ⟨rfl, by repeat (first | exact Below.refl _ _ | apply below_alloc | apply below_drew | refine below_set ?_ (by simp) | (refine Below.setCell ?_ (by simp) _))⟩
theorem bare_is11 (k : Nat) (a0_1 : Bool) (a0_2 : Int) (a0_3 : Int) (a0_4 : Int) (a0_5 : ByteArray) (a0_6 : Int) (a0_7 : Bool) (a0_8 : Bool) (a0_9 : Int) (a0_10 : Int) (r : Int × Bool × Int × Int × Int × ByteArray × Int × Bool × Bool × Int × Int) (h : spec_codBare.f k 11 a0_1 a0_2 a0_3 a0_4 a0_5 a0_6 a0_7 a0_8 a0_9 a0_10 = some r) : r = (11, false, a0_2, 0, 0, (⟨#[]⟩ : ByteArray), 0, false, false, 0, 0) := by
  rcases k with _ | _ | _ | k
  all_goals (simp [spec_codBare.f, spec_codBare.j0, spec_codBare.j1, spec_codBare.j2] at h; try exact h.symm)
set_option maxHeartbeats 4000000 in
set_option maxRecDepth 100000 in
theorem bare_calls11 (a0_1 : Bool) (a0_2 : Int) (a0_3 : Int) (a0_4 : Int) (a0_5 : ByteArray) (a0_6 : Int) (a0_7 : Bool) (a0_8 : Bool) (a0_9 : Int) (a0_10 : Int) (w : World) :
    Calls Tryd.prog 100 #[.agg #[.int .i64 11, .bool a0_1, .int .i64 a0_2, .int .u64 a0_3, .int .u64 a0_4, .string a0_5, .int .i64 a0_6, .bool a0_7, .bool a0_8, .int .i64 a0_9, .int .i64 a0_10]] w fun e w' => e = .returned (.agg #[.int .i64 11, .bool false, .int .i64 a0_2, .int .u64 0, .int .u64 0, .string (⟨#[]⟩ : ByteArray), .int .i64 0, .bool false, .bool false, .int .i64 0, .int .i64 0]) ∧ Below w.heap.size w w' := by
  go_enter Tryd.func100, Tryd.ntmps100
  go_wp2
  go_returns
  exact ⟨rfl, by repeat (first | exact Below.refl _ _ | apply below_alloc | apply below_drew | refine below_set ?_ (by simp) | (refine Below.setCell ?_ (by simp) _))⟩
theorem bare_is12 (k : Nat) (a0_1 : Bool) (a0_2 : Int) (a0_3 : Int) (a0_4 : Int) (a0_5 : ByteArray) (a0_6 : Int) (a0_7 : Bool) (a0_8 : Bool) (a0_9 : Int) (a0_10 : Int) (r : Int × Bool × Int × Int × Int × ByteArray × Int × Bool × Bool × Int × Int) (h : spec_codBare.f k 12 a0_1 a0_2 a0_3 a0_4 a0_5 a0_6 a0_7 a0_8 a0_9 a0_10 = some r) : r = (12, false, 0, a0_3, 0, (⟨#[]⟩ : ByteArray), 0, false, false, 0, 0) := by
  rcases k with _ | _ | _ | k
  all_goals (simp [spec_codBare.f, spec_codBare.j0, spec_codBare.j1, spec_codBare.j2] at h; try exact h.symm)
set_option maxHeartbeats 4000000 in
set_option maxRecDepth 100000 in
theorem bare_calls12 (a0_1 : Bool) (a0_2 : Int) (a0_3 : Int) (a0_4 : Int) (a0_5 : ByteArray) (a0_6 : Int) (a0_7 : Bool) (a0_8 : Bool) (a0_9 : Int) (a0_10 : Int) (w : World) :
    Calls Tryd.prog 100 #[.agg #[.int .i64 12, .bool a0_1, .int .i64 a0_2, .int .u64 a0_3, .int .u64 a0_4, .string a0_5, .int .i64 a0_6, .bool a0_7, .bool a0_8, .int .i64 a0_9, .int .i64 a0_10]] w fun e w' => e = .returned (.agg #[.int .i64 12, .bool false, .int .i64 0, .int .u64 a0_3, .int .u64 0, .string (⟨#[]⟩ : ByteArray), .int .i64 0, .bool false, .bool false, .int .i64 0, .int .i64 0]) ∧ Below w.heap.size w w' := by
  go_enter Tryd.func100, Tryd.ntmps100
  go_wp2
  go_returns
  exact ⟨rfl, by repeat (first | exact Below.refl _ _ | apply below_alloc | apply below_drew | refine below_set ?_ (by simp) | (refine Below.setCell ?_ (by simp) _))⟩
theorem bare_isx (k : Nat) (a0_0 : Int) (hk : a0_0 ≠ 0 ∧ a0_0 ≠ 1 ∧ a0_0 ≠ 2 ∧ a0_0 ≠ 3 ∧ a0_0 ≠ 4 ∧ a0_0 ≠ 5 ∧ a0_0 ≠ 6 ∧ a0_0 ≠ 7 ∧ a0_0 ≠ 8 ∧ a0_0 ≠ 9 ∧ a0_0 ≠ 10 ∧ a0_0 ≠ 11 ∧ a0_0 ≠ 12) (a0_1 : Bool) (a0_2 : Int) (a0_3 : Int) (a0_4 : Int) (a0_5 : ByteArray) (a0_6 : Int) (a0_7 : Bool) (a0_8 : Bool) (a0_9 : Int) (a0_10 : Int) (r : Int × Bool × Int × Int × Int × ByteArray × Int × Bool × Bool × Int × Int) (h : spec_codBare.f k a0_0 a0_1 a0_2 a0_3 a0_4 a0_5 a0_6 a0_7 a0_8 a0_9 a0_10 = some r) : r = (a0_0, false, 0, 0, 0, (⟨#[]⟩ : ByteArray), 0, false, false, 0, 0) := by
  obtain ⟨h0, h1, h2, h3, h4, h5, h6, h7, h8, h9, h10, h11, h12⟩ := hk
  rcases k with _ | _ | _ | k
  all_goals (simp [spec_codBare.f, spec_codBare.j0, spec_codBare.j1, spec_codBare.j2, h0, h1, h2, h3, h4, h5, h6, h7, h8, h9, h10, h11, h12] at h; try exact h.symm)
set_option maxHeartbeats 4000000 in
set_option maxRecDepth 100000 in
theorem bare_callsx (a0_0 : Int) (hk : a0_0 ≠ 0 ∧ a0_0 ≠ 1 ∧ a0_0 ≠ 2 ∧ a0_0 ≠ 3 ∧ a0_0 ≠ 4 ∧ a0_0 ≠ 5 ∧ a0_0 ≠ 6 ∧ a0_0 ≠ 7 ∧ a0_0 ≠ 8 ∧ a0_0 ≠ 9 ∧ a0_0 ≠ 10 ∧ a0_0 ≠ 11 ∧ a0_0 ≠ 12) (a0_1 : Bool) (a0_2 : Int) (a0_3 : Int) (a0_4 : Int) (a0_5 : ByteArray) (a0_6 : Int) (a0_7 : Bool) (a0_8 : Bool) (a0_9 : Int) (a0_10 : Int) (w : World) :
    Calls Tryd.prog 100 #[.agg #[.int .i64 a0_0, .bool a0_1, .int .i64 a0_2, .int .u64 a0_3, .int .u64 a0_4, .string a0_5, .int .i64 a0_6, .bool a0_7, .bool a0_8, .int .i64 a0_9, .int .i64 a0_10]] w fun e w' => e = .returned (.agg #[.int .i64 a0_0, .bool false, .int .i64 0, .int .u64 0, .int .u64 0, .string (⟨#[]⟩ : ByteArray), .int .i64 0, .bool false, .bool false, .int .i64 0, .int .i64 0]) ∧ Below w.heap.size w w' := by
  obtain ⟨h0, h1, h2, h3, h4, h5, h6, h7, h8, h9, h10, h11, h12⟩ := hk
  replace h0 : (a0_0 == 0) = false := beq_eq_false_iff_ne.2 h0
  replace h1 : (a0_0 == 1) = false := beq_eq_false_iff_ne.2 h1
  replace h2 : (a0_0 == 2) = false := beq_eq_false_iff_ne.2 h2
  replace h3 : (a0_0 == 3) = false := beq_eq_false_iff_ne.2 h3
  replace h4 : (a0_0 == 4) = false := beq_eq_false_iff_ne.2 h4
  replace h5 : (a0_0 == 5) = false := beq_eq_false_iff_ne.2 h5
  replace h6 : (a0_0 == 6) = false := beq_eq_false_iff_ne.2 h6
  replace h7 : (a0_0 == 7) = false := beq_eq_false_iff_ne.2 h7
  replace h8 : (a0_0 == 8) = false := beq_eq_false_iff_ne.2 h8
  replace h9 : (a0_0 == 9) = false := beq_eq_false_iff_ne.2 h9
  replace h10 : (a0_0 == 10) = false := beq_eq_false_iff_ne.2 h10
  replace h11 : (a0_0 == 11) = false := beq_eq_false_iff_ne.2 h11
  replace h12 : (a0_0 == 12) = false := beq_eq_false_iff_ne.2 h12
  go_enter Tryd.func100, Tryd.ntmps100
  go_wp2
  go_returns
  exact ⟨rfl, by repeat (first | exact Below.refl _ _ | apply below_alloc | apply below_drew | refine below_set ?_ (by simp) | (refine Below.setCell ?_ (by simp) _))⟩
set_option maxHeartbeats 8000000 in
set_option maxRecDepth 100000 in
theorem spec_codBare.calls (k : Nat) (a0_0 : Int) (a0_1 : Bool) (a0_2 : Int) (a0_3 : Int) (a0_4 : Int) (a0_5 : ByteArray) (a0_6 : Int) (a0_7 : Bool) (a0_8 : Bool) (a0_9 : Int) (a0_10 : Int) (r1 : Int) (r2 : Bool) (r3 : Int) (r4 : Int) (r5 : Int) (r6 : ByteArray) (r7 : Int) (r8 : Bool) (r9 : Bool) (r10 : Int) (r11 : Int) (w : World) (h : spec_codBare.f k a0_0 a0_1 a0_2 a0_3 a0_4 a0_5 a0_6 a0_7 a0_8 a0_9 a0_10 = some (r1, r2, r3, r4, r5, r6, r7, r8, r9, r10, r11)) :
    Calls Tryd.prog 100 #[.agg #[.int .i64 a0_0, .bool a0_1, .int .i64 a0_2, .int .u64 a0_3, .int .u64 a0_4, .string a0_5, .int .i64 a0_6, .bool a0_7, .bool a0_8, .int .i64 a0_9, .int .i64 a0_10]] w fun e w' => e = .returned (.agg #[.int .i64 r1, .bool r2, .int .i64 r3, .int .u64 r4, .int .u64 r5, .string r6, .int .i64 r7, .bool r8, .bool r9, .int .i64 r10, .int .i64 r11]) ∧ Below w.heap.size w w' := by
  by_cases c0 : a0_0 = 0
  · subst c0
    have hr := bare_is0 _ _ _ _ _ _ _ _ _ _ _ _ h
    simp only [Prod.mk.injEq] at hr
    obtain ⟨rfl, rfl, rfl, rfl, rfl, rfl, rfl, rfl, rfl, rfl, rfl⟩ := hr
    exact bare_calls0 _ _ _ _ _ _ _ _ _ _ w
  by_cases c1 : a0_0 = 1
  · subst c1
    have hr := bare_is1 _ _ _ _ _ _ _ _ _ _ _ _ h
    simp only [Prod.mk.injEq] at hr
    obtain ⟨rfl, rfl, rfl, rfl, rfl, rfl, rfl, rfl, rfl, rfl, rfl⟩ := hr
    exact bare_calls1 _ _ _ _ _ _ _ _ _ _ w
  by_cases c2 : a0_0 = 2
  · subst c2
    have hr := bare_is2 _ _ _ _ _ _ _ _ _ _ _ _ h
    simp only [Prod.mk.injEq] at hr
    obtain ⟨rfl, rfl, rfl, rfl, rfl, rfl, rfl, rfl, rfl, rfl, rfl⟩ := hr
    exact bare_calls2 _ _ _ _ _ _ _ _ _ _ w
  by_cases c3 : a0_0 = 3
  · subst c3
    have hr := bare_is3 _ _ _ _ _ _ _ _ _ _ _ _ h
    simp only [Prod.mk.injEq] at hr
    obtain ⟨rfl, rfl, rfl, rfl, rfl, rfl, rfl, rfl, rfl, rfl, rfl⟩ := hr
    exact bare_calls3 _ _ _ _ _ _ _ _ _ _ w
  by_cases c4 : a0_0 = 4
  · subst c4
    have hr := bare_is4 _ _ _ _ _ _ _ _ _ _ _ _ h
    simp only [Prod.mk.injEq] at hr
    obtain ⟨rfl, rfl, rfl, rfl, rfl, rfl, rfl, rfl, rfl, rfl, rfl⟩ := hr
    exact bare_calls4 _ _ _ _ _ _ _ _ _ _ w
  by_cases c5 : a0_0 = 5
  · subst c5
    have hr := bare_is5 _ _ _ _ _ _ _ _ _ _ _ _ h
    simp only [Prod.mk.injEq] at hr
    obtain ⟨rfl, rfl, rfl, rfl, rfl, rfl, rfl, rfl, rfl, rfl, rfl⟩ := hr
    exact bare_calls5 _ _ _ _ _ _ _ _ _ _ w
  by_cases c6 : a0_0 = 6
  · subst c6
    have hr := bare_is6 _ _ _ _ _ _ _ _ _ _ _ _ h
    simp only [Prod.mk.injEq] at hr
    obtain ⟨rfl, rfl, rfl, rfl, rfl, rfl, rfl, rfl, rfl, rfl, rfl⟩ := hr
    exact bare_calls6 _ _ _ _ _ _ _ _ _ _ w
  by_cases c7 : a0_0 = 7
  · subst c7
    have hr := bare_is7 _ _ _ _ _ _ _ _ _ _ _ _ h
    simp only [Prod.mk.injEq] at hr
    obtain ⟨rfl, rfl, rfl, rfl, rfl, rfl, rfl, rfl, rfl, rfl, rfl⟩ := hr
    exact bare_calls7 _ _ _ _ _ _ _ _ _ _ w
  by_cases c8 : a0_0 = 8
  · subst c8
    have hr := bare_is8 _ _ _ _ _ _ _ _ _ _ _ _ h
    simp only [Prod.mk.injEq] at hr
    obtain ⟨rfl, rfl, rfl, rfl, rfl, rfl, rfl, rfl, rfl, rfl, rfl⟩ := hr
    exact bare_calls8 _ _ _ _ _ _ _ _ _ _ w
  by_cases c9 : a0_0 = 9
  · subst c9
    have hr := bare_is9 _ _ _ _ _ _ _ _ _ _ _ _ h
    simp only [Prod.mk.injEq] at hr
    obtain ⟨rfl, rfl, rfl, rfl, rfl, rfl, rfl, rfl, rfl, rfl, rfl⟩ := hr
    exact bare_calls9 _ _ _ _ _ _ _ _ _ _ w
  by_cases c10 : a0_0 = 10
  · subst c10
    have hr := bare_is10 _ _ _ _ _ _ _ _ _ _ _ _ h
    simp only [Prod.mk.injEq] at hr
    obtain ⟨rfl, rfl, rfl, rfl, rfl, rfl, rfl, rfl, rfl, rfl, rfl⟩ := hr
    exact bare_calls10 _ _ _ _ _ _ _ _ _ _ w
  by_cases c11 : a0_0 = 11
  · subst c11
    have hr := bare_is11 _ _ _ _ _ _ _ _ _ _ _ _ h
    simp only [Prod.mk.injEq] at hr
    obtain ⟨rfl, rfl, rfl, rfl, rfl, rfl, rfl, rfl, rfl, rfl, rfl⟩ := hr
    exact bare_calls11 _ _ _ _ _ _ _ _ _ _ w
  by_cases c12 : a0_0 = 12
  · subst c12
    have hr := bare_is12 _ _ _ _ _ _ _ _ _ _ _ _ h
    simp only [Prod.mk.injEq] at hr
    obtain ⟨rfl, rfl, rfl, rfl, rfl, rfl, rfl, rfl, rfl, rfl, rfl⟩ := hr
    exact bare_calls12 _ _ _ _ _ _ _ _ _ _ w
  have hk := (⟨c0, c1, c2, c3, c4, c5, c6, c7, c8, c9, c10, c11, c12⟩ : a0_0 ≠ 0 ∧ a0_0 ≠ 1 ∧ a0_0 ≠ 2 ∧ a0_0 ≠ 3 ∧ a0_0 ≠ 4 ∧ a0_0 ≠ 5 ∧ a0_0 ≠ 6 ∧ a0_0 ≠ 7 ∧ a0_0 ≠ 8 ∧ a0_0 ≠ 9 ∧ a0_0 ≠ 10 ∧ a0_0 ≠ 11 ∧ a0_0 ≠ 12)
  have hr := bare_isx _ a0_0 hk _ _ _ _ _ _ _ _ _ _ _ h
  simp only [Prod.mk.injEq] at hr
  obtain ⟨rfl, rfl, rfl, rfl, rfl, rfl, rfl, rfl, rfl, rfl, rfl⟩ := hr
  exact bare_callsx _ hk _ _ _ _ _ _ _ _ _ _ w
end Go.Proofs.YtgdbeiadlgkedaaDoor.PFnEncode
