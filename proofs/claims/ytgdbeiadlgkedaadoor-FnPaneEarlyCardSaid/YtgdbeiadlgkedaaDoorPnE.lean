/- Contracts: a pane is written by EncodeValue. -/
import Derived.Test.YtgdbeiadlgkedaaDoorPnC
import Derived.Test.YtgdbeiadlgkedaaDoorPnD
set_option linter.unusedVariables false
set_option linter.unusedSimpArgs false
namespace Go.Proofs.YtgdbeiadlgkedaaDoor
open Go.RowKit Go.Proofs.YtgdbeiadlgkedaaDoorW.PrintWords Go.Proofs.YtgdbeiadlgkedaaDoorW.PrintLast Go.Proofs.YtgdbeiadlgkedaaDoorW.PrintMore
theorem encPane_ok (B b : Nat) (t : Nat) (ht : t < 4) (f l : Bool) (i n : Int) (hok : t = 0 → n = -1 ∨ (i = 0 ∧ n = 0)) (l0 : List UInt8) (w : World) (h : Bf B b l0 w) (hlim : l0.length + 100 ≤ 140737488355328) :
    Calls Tryd.prog 75 #[.agg #[.int .u8 t, .bool f, .bool l, .int .i64 i, .int .i64 n], bfI b] w fun e w' => e = .returned .nilIface ∧ Bf B b (l0 ++ pbytes t f l i n) w' ∧ Below B w w' := by
  unfold pbytes
  by_cases c1 : (i = 0 ∧ n = 0) ∨ t = 3
  · rw [if_pos c1]
    by_cases hi : i = 0
    · by_cases hn : n = 0
      · exact encPane_a1 B b t ht f l i n hi hn l0 w h hlim
      · exact encPane_a3 B b t ht f l i n (by omega) hi hn l0 w h hlim
    · exact encPane_a2 B b t ht f l i n (by omega) hi l0 w h hlim
  · rw [if_neg c1]
    by_cases c2 : i = n ∨ t = 0
    · rw [if_pos c2]
      by_cases t0 : t = 0
      · have hn : n = -1 := by have := hok t0; omega
        by_cases hi : i = 0
        · exact encPane_b3 B b t ht f l i n t0 hi hn l0 w h hlim
        · by_cases hi1 : i = -1
          · exact encPane_b4 B b t ht f l i n t0 hi1 hn l0 w h hlim
          · exact encPane_b2 B b t ht f l i n t0 hi hi1 hn l0 w h hlim
      · exact encPane_b1 B b t ht f l i n (by omega) t0 (by omega) (by omega) l0 w h hlim
    · rw [if_neg c2]
      by_cases hi : i = 0
      · exact encPane_c2 B b t ht f l i n (by omega) (by omega) hi (by omega) l0 w h hlim
      · exact encPane_c1 B b t ht f l i n (by omega) (by omega) hi (by omega) l0 w h hlim
theorem encPane_bad (B b : Nat) (f l : Bool) (i n : Int) (hin : i ≠ n) (hn : n ≠ -1) (l0 : List UInt8) (w : World) (h : Bf B b l0 w) (hlim : l0.length + 100 ≤ 140737488355328) :
    Calls Tryd.prog 75 #[.agg #[.int .u8 (0 : Nat), .bool f, .bool l, .int .i64 i, .int .i64 n], bfI b] w fun e w' => ∃ a s, e = .returned (errV a) ∧ w'.cell? a = some (.string s) ∧ s.data.toList ≠ [] ∧ Below B w w' ∧ Bf B b l0 w' := by
  by_cases hi : i = 0
  · exact encPane_d2 B b 0 (by decide) f l i n rfl hi (by omega) hn l0 w h hlim
  · exact encPane_d1 B b 0 (by decide) f l i n rfl hi hin hn l0 w h hlim
set_option maxHeartbeats 4000000 in
set_option maxRecDepth 100000 in
theorem pane_any (t : Nat) (f l : Bool) (i n : Int) (ht : t < 4) (w : World) :
    Calls Tryd.prog 76 #[.agg #[.int .i64 t, .bool f, .bool l, .int .i64 i, .int .i64 n]] w fun e w' => e = .returned (.agg #[.int .u8 t, .bool f, .bool l, .int .i64 i, .int .i64 n]) ∧ Below w.heap.size w w' := by
  have q1 : (t : Int) % 256 = (t : Int) := by omega
  go_enter Tryd.func76, Tryd.ntmps76
  go_wp2
  go_returns
  exact ⟨rfl, by repeat (first | exact Below.refl _ _ | apply below_alloc | apply below_drew | refine below_set ?_ (by simp) | (refine Below.setCell ?_ (by simp) _))⟩
set_option maxHeartbeats 4000000 in
set_option maxRecDepth 100000 in
theorem codPane_any (t : Int) (f l : Bool) (i n : Int) (w : World) :
    Calls Tryd.prog 29 #[.agg #[.int .i64 t, .bool f, .bool l, .int .i64 i, .int .i64 n]] w fun e w' => e = .returned (.agg #[.int .i64 t, .bool f, .bool l, .int .i64 i, .int .i64 n]) ∧ Below w.heap.size w w' := by
  go_enter Tryd.func29, Tryd.ntmps29
  go_wp2
  go_returns
  exact ⟨rfl, by repeat (first | exact Below.refl _ _ | apply below_alloc | apply below_drew | refine below_set ?_ (by simp) | (refine Below.setCell ?_ (by simp) _))⟩
end Go.Proofs.YtgdbeiadlgkedaaDoor
