/- Contracts on the functions that place times in windows: whether two are the same. -/
import Derived.Test.YtdifeleddhefnaaMap
import Derived.Test.YtdifeleddhefnaaLawS
set_option linter.unusedVariables false
set_option linter.unusedSimpArgs false
namespace Go.Proofs.Ytdifeleddhefnaa
open Go.RowKit Go.Proofs.YtdifeleddhefnaaW.PrintWords

set_option maxHeartbeats 1000000
theorem q62_GG (g1 g2 : Nat) (a1 b1 c1 a2 b2 c2 : Int) (w : World) (h1 : w.heap[g1]? = some (.cells #[.string ⟨#[71, 76, 79]⟩, .int .i64 a1, .int .i64 b1, .int .i64 c1] 111 (0, 0))) (h2 : w.heap[g2]? = some (.cells #[.string ⟨#[71, 76, 79]⟩, .int .i64 a2, .int .i64 b2, .int .i64 c2] 111 (0, 0))) :
    Calls Try.prog 62 #[.pointer (some ⟨g1, 0, none⟩), .pointer (some ⟨g2, 0, none⟩)] w fun e w' => e = .returned (.bool (true)) ∧ Drawn0 w w' := by
  have x10 : w.cell? ⟨g1, 0, none⟩ = some (.string ⟨#[71, 76, 79]⟩) := (blk_cell h1 0).trans rfl
  have x11 : w.cell? ⟨g1, 1, none⟩ = some (.int .i64 a1) := (blk_cell h1 1).trans rfl
  have x12 : w.cell? ⟨g1, 2, none⟩ = some (.int .i64 b1) := (blk_cell h1 2).trans rfl
  have x13 : w.cell? ⟨g1, 3, none⟩ = some (.int .i64 c1) := (blk_cell h1 3).trans rfl
  have x20 : w.cell? ⟨g2, 0, none⟩ = some (.string ⟨#[71, 76, 79]⟩) := (blk_cell h2 0).trans rfl
  have x21 : w.cell? ⟨g2, 1, none⟩ = some (.int .i64 a2) := (blk_cell h2 1).trans rfl
  have x22 : w.cell? ⟨g2, 2, none⟩ = some (.int .i64 b2) := (blk_cell h2 2).trans rfl
  have x23 : w.cell? ⟨g2, 3, none⟩ = some (.int .i64 c2) := (blk_cell h2 3).trans rfl
  clear h1 h2
  go_enter Try.func62, Try.ntmps62
  go_wp2
  repeat (go_quiet (fail); try go_wp2)
  go_ret
  exact ⟨ret_bool (by simp), by repeat (first | exact Drawn0.refl _ | apply Drawn0.step)⟩
theorem q62_GF (g1 g2 : Nat) (a1 b1 c1 a2 b2 c2 : Int) (w : World) (h1 : w.heap[g1]? = some (.cells #[.string ⟨#[71, 76, 79]⟩, .int .i64 a1, .int .i64 b1, .int .i64 c1] 111 (0, 0))) (h2 : w.heap[g2]? = some (.cells #[.string ⟨#[70, 73, 88]⟩, .int .i64 a2, .int .i64 b2, .int .i64 c2] 111 (0, 0))) :
    Calls Try.prog 62 #[.pointer (some ⟨g1, 0, none⟩), .pointer (some ⟨g2, 0, none⟩)] w fun e w' => e = .returned (.bool (false)) ∧ Drawn0 w w' := by
  have x10 : w.cell? ⟨g1, 0, none⟩ = some (.string ⟨#[71, 76, 79]⟩) := (blk_cell h1 0).trans rfl
  have x11 : w.cell? ⟨g1, 1, none⟩ = some (.int .i64 a1) := (blk_cell h1 1).trans rfl
  have x12 : w.cell? ⟨g1, 2, none⟩ = some (.int .i64 b1) := (blk_cell h1 2).trans rfl
  have x13 : w.cell? ⟨g1, 3, none⟩ = some (.int .i64 c1) := (blk_cell h1 3).trans rfl
  have x20 : w.cell? ⟨g2, 0, none⟩ = some (.string ⟨#[70, 73, 88]⟩) := (blk_cell h2 0).trans rfl
  have x21 : w.cell? ⟨g2, 1, none⟩ = some (.int .i64 a2) := (blk_cell h2 1).trans rfl
  have x22 : w.cell? ⟨g2, 2, none⟩ = some (.int .i64 b2) := (blk_cell h2 2).trans rfl
  have x23 : w.cell? ⟨g2, 3, none⟩ = some (.int .i64 c2) := (blk_cell h2 3).trans rfl
  clear h1 h2
  go_enter Try.func62, Try.ntmps62
  go_wp2
  repeat (go_quiet (fail); try go_wp2)
  go_ret
  exact ⟨ret_bool (by simp), by repeat (first | exact Drawn0.refl _ | apply Drawn0.step)⟩
theorem q62_GL (g1 g2 : Nat) (a1 b1 c1 a2 b2 c2 : Int) (w : World) (h1 : w.heap[g1]? = some (.cells #[.string ⟨#[71, 76, 79]⟩, .int .i64 a1, .int .i64 b1, .int .i64 c1] 111 (0, 0))) (h2 : w.heap[g2]? = some (.cells #[.string ⟨#[83, 76, 73]⟩, .int .i64 a2, .int .i64 b2, .int .i64 c2] 111 (0, 0))) :
    Calls Try.prog 62 #[.pointer (some ⟨g1, 0, none⟩), .pointer (some ⟨g2, 0, none⟩)] w fun e w' => e = .returned (.bool (false)) ∧ Drawn0 w w' := by
  have x10 : w.cell? ⟨g1, 0, none⟩ = some (.string ⟨#[71, 76, 79]⟩) := (blk_cell h1 0).trans rfl
  have x11 : w.cell? ⟨g1, 1, none⟩ = some (.int .i64 a1) := (blk_cell h1 1).trans rfl
  have x12 : w.cell? ⟨g1, 2, none⟩ = some (.int .i64 b1) := (blk_cell h1 2).trans rfl
  have x13 : w.cell? ⟨g1, 3, none⟩ = some (.int .i64 c1) := (blk_cell h1 3).trans rfl
  have x20 : w.cell? ⟨g2, 0, none⟩ = some (.string ⟨#[83, 76, 73]⟩) := (blk_cell h2 0).trans rfl
  have x21 : w.cell? ⟨g2, 1, none⟩ = some (.int .i64 a2) := (blk_cell h2 1).trans rfl
  have x22 : w.cell? ⟨g2, 2, none⟩ = some (.int .i64 b2) := (blk_cell h2 2).trans rfl
  have x23 : w.cell? ⟨g2, 3, none⟩ = some (.int .i64 c2) := (blk_cell h2 3).trans rfl
  clear h1 h2
  go_enter Try.func62, Try.ntmps62
  go_wp2
  repeat (go_quiet (fail); try go_wp2)
  go_ret
  exact ⟨ret_bool (by simp), by repeat (first | exact Drawn0.refl _ | apply Drawn0.step)⟩
theorem q62_GE (g1 g2 : Nat) (a1 b1 c1 a2 b2 c2 : Int) (w : World) (h1 : w.heap[g1]? = some (.cells #[.string ⟨#[71, 76, 79]⟩, .int .i64 a1, .int .i64 b1, .int .i64 c1] 111 (0, 0))) (h2 : w.heap[g2]? = some (.cells #[.string ⟨#[83, 69, 83]⟩, .int .i64 a2, .int .i64 b2, .int .i64 c2] 111 (0, 0))) :
    Calls Try.prog 62 #[.pointer (some ⟨g1, 0, none⟩), .pointer (some ⟨g2, 0, none⟩)] w fun e w' => e = .returned (.bool (false)) ∧ Drawn0 w w' := by
  have x10 : w.cell? ⟨g1, 0, none⟩ = some (.string ⟨#[71, 76, 79]⟩) := (blk_cell h1 0).trans rfl
  have x11 : w.cell? ⟨g1, 1, none⟩ = some (.int .i64 a1) := (blk_cell h1 1).trans rfl
  have x12 : w.cell? ⟨g1, 2, none⟩ = some (.int .i64 b1) := (blk_cell h1 2).trans rfl
  have x13 : w.cell? ⟨g1, 3, none⟩ = some (.int .i64 c1) := (blk_cell h1 3).trans rfl
  have x20 : w.cell? ⟨g2, 0, none⟩ = some (.string ⟨#[83, 69, 83]⟩) := (blk_cell h2 0).trans rfl
  have x21 : w.cell? ⟨g2, 1, none⟩ = some (.int .i64 a2) := (blk_cell h2 1).trans rfl
  have x22 : w.cell? ⟨g2, 2, none⟩ = some (.int .i64 b2) := (blk_cell h2 2).trans rfl
  have x23 : w.cell? ⟨g2, 3, none⟩ = some (.int .i64 c2) := (blk_cell h2 3).trans rfl
  clear h1 h2
  go_enter Try.func62, Try.ntmps62
  go_wp2
  repeat (go_quiet (fail); try go_wp2)
  go_ret
  exact ⟨ret_bool (by simp), by repeat (first | exact Drawn0.refl _ | apply Drawn0.step)⟩
theorem q62_FG (g1 g2 : Nat) (a1 b1 c1 a2 b2 c2 : Int) (w : World) (h1 : w.heap[g1]? = some (.cells #[.string ⟨#[70, 73, 88]⟩, .int .i64 a1, .int .i64 b1, .int .i64 c1] 111 (0, 0))) (h2 : w.heap[g2]? = some (.cells #[.string ⟨#[71, 76, 79]⟩, .int .i64 a2, .int .i64 b2, .int .i64 c2] 111 (0, 0))) :
    Calls Try.prog 62 #[.pointer (some ⟨g1, 0, none⟩), .pointer (some ⟨g2, 0, none⟩)] w fun e w' => e = .returned (.bool (false)) ∧ Drawn0 w w' := by
  have x10 : w.cell? ⟨g1, 0, none⟩ = some (.string ⟨#[70, 73, 88]⟩) := (blk_cell h1 0).trans rfl
  have x11 : w.cell? ⟨g1, 1, none⟩ = some (.int .i64 a1) := (blk_cell h1 1).trans rfl
  have x12 : w.cell? ⟨g1, 2, none⟩ = some (.int .i64 b1) := (blk_cell h1 2).trans rfl
  have x13 : w.cell? ⟨g1, 3, none⟩ = some (.int .i64 c1) := (blk_cell h1 3).trans rfl
  have x20 : w.cell? ⟨g2, 0, none⟩ = some (.string ⟨#[71, 76, 79]⟩) := (blk_cell h2 0).trans rfl
  have x21 : w.cell? ⟨g2, 1, none⟩ = some (.int .i64 a2) := (blk_cell h2 1).trans rfl
  have x22 : w.cell? ⟨g2, 2, none⟩ = some (.int .i64 b2) := (blk_cell h2 2).trans rfl
  have x23 : w.cell? ⟨g2, 3, none⟩ = some (.int .i64 c2) := (blk_cell h2 3).trans rfl
  clear h1 h2
  go_enter Try.func62, Try.ntmps62
  go_wp2
  repeat (go_quiet (fail); try go_wp2)
  go_ret
  exact ⟨ret_bool (by simp), by repeat (first | exact Drawn0.refl _ | apply Drawn0.step)⟩
theorem q62_FF (g1 g2 : Nat) (a1 b1 c1 a2 b2 c2 : Int) (w : World) (h1 : w.heap[g1]? = some (.cells #[.string ⟨#[70, 73, 88]⟩, .int .i64 a1, .int .i64 b1, .int .i64 c1] 111 (0, 0))) (h2 : w.heap[g2]? = some (.cells #[.string ⟨#[70, 73, 88]⟩, .int .i64 a2, .int .i64 b2, .int .i64 c2] 111 (0, 0))) :
    Calls Try.prog 62 #[.pointer (some ⟨g1, 0, none⟩), .pointer (some ⟨g2, 0, none⟩)] w fun e w' => e = .returned (.bool (a1 == a2)) ∧ Drawn0 w w' := by
  have x10 : w.cell? ⟨g1, 0, none⟩ = some (.string ⟨#[70, 73, 88]⟩) := (blk_cell h1 0).trans rfl
  have x11 : w.cell? ⟨g1, 1, none⟩ = some (.int .i64 a1) := (blk_cell h1 1).trans rfl
  have x12 : w.cell? ⟨g1, 2, none⟩ = some (.int .i64 b1) := (blk_cell h1 2).trans rfl
  have x13 : w.cell? ⟨g1, 3, none⟩ = some (.int .i64 c1) := (blk_cell h1 3).trans rfl
  have x20 : w.cell? ⟨g2, 0, none⟩ = some (.string ⟨#[70, 73, 88]⟩) := (blk_cell h2 0).trans rfl
  have x21 : w.cell? ⟨g2, 1, none⟩ = some (.int .i64 a2) := (blk_cell h2 1).trans rfl
  have x22 : w.cell? ⟨g2, 2, none⟩ = some (.int .i64 b2) := (blk_cell h2 2).trans rfl
  have x23 : w.cell? ⟨g2, 3, none⟩ = some (.int .i64 c2) := (blk_cell h2 3).trans rfl
  clear h1 h2
  go_enter Try.func62, Try.ntmps62
  go_wp2
  repeat (go_quiet (fail); try go_wp2)
  go_ret
  exact ⟨ret_bool (by simp), by repeat (first | exact Drawn0.refl _ | apply Drawn0.step)⟩
theorem q62_FL (g1 g2 : Nat) (a1 b1 c1 a2 b2 c2 : Int) (w : World) (h1 : w.heap[g1]? = some (.cells #[.string ⟨#[70, 73, 88]⟩, .int .i64 a1, .int .i64 b1, .int .i64 c1] 111 (0, 0))) (h2 : w.heap[g2]? = some (.cells #[.string ⟨#[83, 76, 73]⟩, .int .i64 a2, .int .i64 b2, .int .i64 c2] 111 (0, 0))) :
    Calls Try.prog 62 #[.pointer (some ⟨g1, 0, none⟩), .pointer (some ⟨g2, 0, none⟩)] w fun e w' => e = .returned (.bool (false)) ∧ Drawn0 w w' := by
  have x10 : w.cell? ⟨g1, 0, none⟩ = some (.string ⟨#[70, 73, 88]⟩) := (blk_cell h1 0).trans rfl
  have x11 : w.cell? ⟨g1, 1, none⟩ = some (.int .i64 a1) := (blk_cell h1 1).trans rfl
  have x12 : w.cell? ⟨g1, 2, none⟩ = some (.int .i64 b1) := (blk_cell h1 2).trans rfl
  have x13 : w.cell? ⟨g1, 3, none⟩ = some (.int .i64 c1) := (blk_cell h1 3).trans rfl
  have x20 : w.cell? ⟨g2, 0, none⟩ = some (.string ⟨#[83, 76, 73]⟩) := (blk_cell h2 0).trans rfl
  have x21 : w.cell? ⟨g2, 1, none⟩ = some (.int .i64 a2) := (blk_cell h2 1).trans rfl
  have x22 : w.cell? ⟨g2, 2, none⟩ = some (.int .i64 b2) := (blk_cell h2 2).trans rfl
  have x23 : w.cell? ⟨g2, 3, none⟩ = some (.int .i64 c2) := (blk_cell h2 3).trans rfl
  clear h1 h2
  go_enter Try.func62, Try.ntmps62
  go_wp2
  repeat (go_quiet (fail); try go_wp2)
  go_ret
  exact ⟨ret_bool (by simp), by repeat (first | exact Drawn0.refl _ | apply Drawn0.step)⟩
theorem q62_FE (g1 g2 : Nat) (a1 b1 c1 a2 b2 c2 : Int) (w : World) (h1 : w.heap[g1]? = some (.cells #[.string ⟨#[70, 73, 88]⟩, .int .i64 a1, .int .i64 b1, .int .i64 c1] 111 (0, 0))) (h2 : w.heap[g2]? = some (.cells #[.string ⟨#[83, 69, 83]⟩, .int .i64 a2, .int .i64 b2, .int .i64 c2] 111 (0, 0))) :
    Calls Try.prog 62 #[.pointer (some ⟨g1, 0, none⟩), .pointer (some ⟨g2, 0, none⟩)] w fun e w' => e = .returned (.bool (false)) ∧ Drawn0 w w' := by
  have x10 : w.cell? ⟨g1, 0, none⟩ = some (.string ⟨#[70, 73, 88]⟩) := (blk_cell h1 0).trans rfl
  have x11 : w.cell? ⟨g1, 1, none⟩ = some (.int .i64 a1) := (blk_cell h1 1).trans rfl
  have x12 : w.cell? ⟨g1, 2, none⟩ = some (.int .i64 b1) := (blk_cell h1 2).trans rfl
  have x13 : w.cell? ⟨g1, 3, none⟩ = some (.int .i64 c1) := (blk_cell h1 3).trans rfl
  have x20 : w.cell? ⟨g2, 0, none⟩ = some (.string ⟨#[83, 69, 83]⟩) := (blk_cell h2 0).trans rfl
  have x21 : w.cell? ⟨g2, 1, none⟩ = some (.int .i64 a2) := (blk_cell h2 1).trans rfl
  have x22 : w.cell? ⟨g2, 2, none⟩ = some (.int .i64 b2) := (blk_cell h2 2).trans rfl
  have x23 : w.cell? ⟨g2, 3, none⟩ = some (.int .i64 c2) := (blk_cell h2 3).trans rfl
  clear h1 h2
  go_enter Try.func62, Try.ntmps62
  go_wp2
  repeat (go_quiet (fail); try go_wp2)
  go_ret
  exact ⟨ret_bool (by simp), by repeat (first | exact Drawn0.refl _ | apply Drawn0.step)⟩
theorem q62_LG (g1 g2 : Nat) (a1 b1 c1 a2 b2 c2 : Int) (w : World) (h1 : w.heap[g1]? = some (.cells #[.string ⟨#[83, 76, 73]⟩, .int .i64 a1, .int .i64 b1, .int .i64 c1] 111 (0, 0))) (h2 : w.heap[g2]? = some (.cells #[.string ⟨#[71, 76, 79]⟩, .int .i64 a2, .int .i64 b2, .int .i64 c2] 111 (0, 0))) :
    Calls Try.prog 62 #[.pointer (some ⟨g1, 0, none⟩), .pointer (some ⟨g2, 0, none⟩)] w fun e w' => e = .returned (.bool (false)) ∧ Drawn0 w w' := by
  have x10 : w.cell? ⟨g1, 0, none⟩ = some (.string ⟨#[83, 76, 73]⟩) := (blk_cell h1 0).trans rfl
  have x11 : w.cell? ⟨g1, 1, none⟩ = some (.int .i64 a1) := (blk_cell h1 1).trans rfl
  have x12 : w.cell? ⟨g1, 2, none⟩ = some (.int .i64 b1) := (blk_cell h1 2).trans rfl
  have x13 : w.cell? ⟨g1, 3, none⟩ = some (.int .i64 c1) := (blk_cell h1 3).trans rfl
  have x20 : w.cell? ⟨g2, 0, none⟩ = some (.string ⟨#[71, 76, 79]⟩) := (blk_cell h2 0).trans rfl
  have x21 : w.cell? ⟨g2, 1, none⟩ = some (.int .i64 a2) := (blk_cell h2 1).trans rfl
  have x22 : w.cell? ⟨g2, 2, none⟩ = some (.int .i64 b2) := (blk_cell h2 2).trans rfl
  have x23 : w.cell? ⟨g2, 3, none⟩ = some (.int .i64 c2) := (blk_cell h2 3).trans rfl
  clear h1 h2
  go_enter Try.func62, Try.ntmps62
  go_wp2
  repeat (go_quiet (fail); try go_wp2)
  go_ret
  exact ⟨ret_bool (by simp), by repeat (first | exact Drawn0.refl _ | apply Drawn0.step)⟩
theorem q62_LF (g1 g2 : Nat) (a1 b1 c1 a2 b2 c2 : Int) (w : World) (h1 : w.heap[g1]? = some (.cells #[.string ⟨#[83, 76, 73]⟩, .int .i64 a1, .int .i64 b1, .int .i64 c1] 111 (0, 0))) (h2 : w.heap[g2]? = some (.cells #[.string ⟨#[70, 73, 88]⟩, .int .i64 a2, .int .i64 b2, .int .i64 c2] 111 (0, 0))) :
    Calls Try.prog 62 #[.pointer (some ⟨g1, 0, none⟩), .pointer (some ⟨g2, 0, none⟩)] w fun e w' => e = .returned (.bool (false)) ∧ Drawn0 w w' := by
  have x10 : w.cell? ⟨g1, 0, none⟩ = some (.string ⟨#[83, 76, 73]⟩) := (blk_cell h1 0).trans rfl
  have x11 : w.cell? ⟨g1, 1, none⟩ = some (.int .i64 a1) := (blk_cell h1 1).trans rfl
  have x12 : w.cell? ⟨g1, 2, none⟩ = some (.int .i64 b1) := (blk_cell h1 2).trans rfl
  have x13 : w.cell? ⟨g1, 3, none⟩ = some (.int .i64 c1) := (blk_cell h1 3).trans rfl
  have x20 : w.cell? ⟨g2, 0, none⟩ = some (.string ⟨#[70, 73, 88]⟩) := (blk_cell h2 0).trans rfl
  have x21 : w.cell? ⟨g2, 1, none⟩ = some (.int .i64 a2) := (blk_cell h2 1).trans rfl
  have x22 : w.cell? ⟨g2, 2, none⟩ = some (.int .i64 b2) := (blk_cell h2 2).trans rfl
  have x23 : w.cell? ⟨g2, 3, none⟩ = some (.int .i64 c2) := (blk_cell h2 3).trans rfl
  clear h1 h2
  go_enter Try.func62, Try.ntmps62
  go_wp2
  repeat (go_quiet (fail); try go_wp2)
  go_ret
  exact ⟨ret_bool (by simp), by repeat (first | exact Drawn0.refl _ | apply Drawn0.step)⟩
theorem q62_LL (g1 g2 : Nat) (a1 b1 c1 a2 b2 c2 : Int) (w : World) (h1 : w.heap[g1]? = some (.cells #[.string ⟨#[83, 76, 73]⟩, .int .i64 a1, .int .i64 b1, .int .i64 c1] 111 (0, 0))) (h2 : w.heap[g2]? = some (.cells #[.string ⟨#[83, 76, 73]⟩, .int .i64 a2, .int .i64 b2, .int .i64 c2] 111 (0, 0))) :
    Calls Try.prog 62 #[.pointer (some ⟨g1, 0, none⟩), .pointer (some ⟨g2, 0, none⟩)] w fun e w' => e = .returned (.bool (b1 == b2 && a1 == a2)) ∧ Drawn0 w w' := by
  have x10 : w.cell? ⟨g1, 0, none⟩ = some (.string ⟨#[83, 76, 73]⟩) := (blk_cell h1 0).trans rfl
  have x11 : w.cell? ⟨g1, 1, none⟩ = some (.int .i64 a1) := (blk_cell h1 1).trans rfl
  have x12 : w.cell? ⟨g1, 2, none⟩ = some (.int .i64 b1) := (blk_cell h1 2).trans rfl
  have x13 : w.cell? ⟨g1, 3, none⟩ = some (.int .i64 c1) := (blk_cell h1 3).trans rfl
  have x20 : w.cell? ⟨g2, 0, none⟩ = some (.string ⟨#[83, 76, 73]⟩) := (blk_cell h2 0).trans rfl
  have x21 : w.cell? ⟨g2, 1, none⟩ = some (.int .i64 a2) := (blk_cell h2 1).trans rfl
  have x22 : w.cell? ⟨g2, 2, none⟩ = some (.int .i64 b2) := (blk_cell h2 2).trans rfl
  have x23 : w.cell? ⟨g2, 3, none⟩ = some (.int .i64 c2) := (blk_cell h2 3).trans rfl
  clear h1 h2
  by_cases hb : b1 = b2
  · have hb' : (b1 == b2) = true := by simp [hb]
    by_cases ha : a1 = a2
    · have ha' : (a1 == a2) = true := by simp [ha]
      go_enter Try.func62, Try.ntmps62
      go_wp2
      repeat (go_quiet (fail); try go_wp2)
      go_ret
      exact ⟨ret_bool (by simp [hb, ha]), by repeat (first | exact Drawn0.refl _ | apply Drawn0.step)⟩
    · have ha' : (a1 == a2) = false := by simp [ha]
      go_enter Try.func62, Try.ntmps62
      go_wp2
      repeat (go_quiet (fail); try go_wp2)
      go_ret
      exact ⟨ret_bool (by simp [ha]), by repeat (first | exact Drawn0.refl _ | apply Drawn0.step)⟩
  · have hb' : (b1 == b2) = false := by simp [hb]
    go_enter Try.func62, Try.ntmps62
    go_wp2
    repeat (go_quiet (fail); try go_wp2)
    go_ret
    exact ⟨ret_bool (by simp [hb]), by repeat (first | exact Drawn0.refl _ | apply Drawn0.step)⟩
theorem q62_LE (g1 g2 : Nat) (a1 b1 c1 a2 b2 c2 : Int) (w : World) (h1 : w.heap[g1]? = some (.cells #[.string ⟨#[83, 76, 73]⟩, .int .i64 a1, .int .i64 b1, .int .i64 c1] 111 (0, 0))) (h2 : w.heap[g2]? = some (.cells #[.string ⟨#[83, 69, 83]⟩, .int .i64 a2, .int .i64 b2, .int .i64 c2] 111 (0, 0))) :
    Calls Try.prog 62 #[.pointer (some ⟨g1, 0, none⟩), .pointer (some ⟨g2, 0, none⟩)] w fun e w' => e = .returned (.bool (false)) ∧ Drawn0 w w' := by
  have x10 : w.cell? ⟨g1, 0, none⟩ = some (.string ⟨#[83, 76, 73]⟩) := (blk_cell h1 0).trans rfl
  have x11 : w.cell? ⟨g1, 1, none⟩ = some (.int .i64 a1) := (blk_cell h1 1).trans rfl
  have x12 : w.cell? ⟨g1, 2, none⟩ = some (.int .i64 b1) := (blk_cell h1 2).trans rfl
  have x13 : w.cell? ⟨g1, 3, none⟩ = some (.int .i64 c1) := (blk_cell h1 3).trans rfl
  have x20 : w.cell? ⟨g2, 0, none⟩ = some (.string ⟨#[83, 69, 83]⟩) := (blk_cell h2 0).trans rfl
  have x21 : w.cell? ⟨g2, 1, none⟩ = some (.int .i64 a2) := (blk_cell h2 1).trans rfl
  have x22 : w.cell? ⟨g2, 2, none⟩ = some (.int .i64 b2) := (blk_cell h2 2).trans rfl
  have x23 : w.cell? ⟨g2, 3, none⟩ = some (.int .i64 c2) := (blk_cell h2 3).trans rfl
  clear h1 h2
  go_enter Try.func62, Try.ntmps62
  go_wp2
  repeat (go_quiet (fail); try go_wp2)
  go_ret
  exact ⟨ret_bool (by simp), by repeat (first | exact Drawn0.refl _ | apply Drawn0.step)⟩
theorem q62_EG (g1 g2 : Nat) (a1 b1 c1 a2 b2 c2 : Int) (w : World) (h1 : w.heap[g1]? = some (.cells #[.string ⟨#[83, 69, 83]⟩, .int .i64 a1, .int .i64 b1, .int .i64 c1] 111 (0, 0))) (h2 : w.heap[g2]? = some (.cells #[.string ⟨#[71, 76, 79]⟩, .int .i64 a2, .int .i64 b2, .int .i64 c2] 111 (0, 0))) :
    Calls Try.prog 62 #[.pointer (some ⟨g1, 0, none⟩), .pointer (some ⟨g2, 0, none⟩)] w fun e w' => e = .returned (.bool (false)) ∧ Drawn0 w w' := by
  have x10 : w.cell? ⟨g1, 0, none⟩ = some (.string ⟨#[83, 69, 83]⟩) := (blk_cell h1 0).trans rfl
  have x11 : w.cell? ⟨g1, 1, none⟩ = some (.int .i64 a1) := (blk_cell h1 1).trans rfl
  have x12 : w.cell? ⟨g1, 2, none⟩ = some (.int .i64 b1) := (blk_cell h1 2).trans rfl
  have x13 : w.cell? ⟨g1, 3, none⟩ = some (.int .i64 c1) := (blk_cell h1 3).trans rfl
  have x20 : w.cell? ⟨g2, 0, none⟩ = some (.string ⟨#[71, 76, 79]⟩) := (blk_cell h2 0).trans rfl
  have x21 : w.cell? ⟨g2, 1, none⟩ = some (.int .i64 a2) := (blk_cell h2 1).trans rfl
  have x22 : w.cell? ⟨g2, 2, none⟩ = some (.int .i64 b2) := (blk_cell h2 2).trans rfl
  have x23 : w.cell? ⟨g2, 3, none⟩ = some (.int .i64 c2) := (blk_cell h2 3).trans rfl
  clear h1 h2
  go_enter Try.func62, Try.ntmps62
  go_wp2
  repeat (go_quiet (fail); try go_wp2)
  go_ret
  exact ⟨ret_bool (by simp), by repeat (first | exact Drawn0.refl _ | apply Drawn0.step)⟩
theorem q62_EF (g1 g2 : Nat) (a1 b1 c1 a2 b2 c2 : Int) (w : World) (h1 : w.heap[g1]? = some (.cells #[.string ⟨#[83, 69, 83]⟩, .int .i64 a1, .int .i64 b1, .int .i64 c1] 111 (0, 0))) (h2 : w.heap[g2]? = some (.cells #[.string ⟨#[70, 73, 88]⟩, .int .i64 a2, .int .i64 b2, .int .i64 c2] 111 (0, 0))) :
    Calls Try.prog 62 #[.pointer (some ⟨g1, 0, none⟩), .pointer (some ⟨g2, 0, none⟩)] w fun e w' => e = .returned (.bool (false)) ∧ Drawn0 w w' := by
  have x10 : w.cell? ⟨g1, 0, none⟩ = some (.string ⟨#[83, 69, 83]⟩) := (blk_cell h1 0).trans rfl
  have x11 : w.cell? ⟨g1, 1, none⟩ = some (.int .i64 a1) := (blk_cell h1 1).trans rfl
  have x12 : w.cell? ⟨g1, 2, none⟩ = some (.int .i64 b1) := (blk_cell h1 2).trans rfl
  have x13 : w.cell? ⟨g1, 3, none⟩ = some (.int .i64 c1) := (blk_cell h1 3).trans rfl
  have x20 : w.cell? ⟨g2, 0, none⟩ = some (.string ⟨#[70, 73, 88]⟩) := (blk_cell h2 0).trans rfl
  have x21 : w.cell? ⟨g2, 1, none⟩ = some (.int .i64 a2) := (blk_cell h2 1).trans rfl
  have x22 : w.cell? ⟨g2, 2, none⟩ = some (.int .i64 b2) := (blk_cell h2 2).trans rfl
  have x23 : w.cell? ⟨g2, 3, none⟩ = some (.int .i64 c2) := (blk_cell h2 3).trans rfl
  clear h1 h2
  go_enter Try.func62, Try.ntmps62
  go_wp2
  repeat (go_quiet (fail); try go_wp2)
  go_ret
  exact ⟨ret_bool (by simp), by repeat (first | exact Drawn0.refl _ | apply Drawn0.step)⟩
theorem q62_EL (g1 g2 : Nat) (a1 b1 c1 a2 b2 c2 : Int) (w : World) (h1 : w.heap[g1]? = some (.cells #[.string ⟨#[83, 69, 83]⟩, .int .i64 a1, .int .i64 b1, .int .i64 c1] 111 (0, 0))) (h2 : w.heap[g2]? = some (.cells #[.string ⟨#[83, 76, 73]⟩, .int .i64 a2, .int .i64 b2, .int .i64 c2] 111 (0, 0))) :
    Calls Try.prog 62 #[.pointer (some ⟨g1, 0, none⟩), .pointer (some ⟨g2, 0, none⟩)] w fun e w' => e = .returned (.bool (false)) ∧ Drawn0 w w' := by
  have x10 : w.cell? ⟨g1, 0, none⟩ = some (.string ⟨#[83, 69, 83]⟩) := (blk_cell h1 0).trans rfl
  have x11 : w.cell? ⟨g1, 1, none⟩ = some (.int .i64 a1) := (blk_cell h1 1).trans rfl
  have x12 : w.cell? ⟨g1, 2, none⟩ = some (.int .i64 b1) := (blk_cell h1 2).trans rfl
  have x13 : w.cell? ⟨g1, 3, none⟩ = some (.int .i64 c1) := (blk_cell h1 3).trans rfl
  have x20 : w.cell? ⟨g2, 0, none⟩ = some (.string ⟨#[83, 76, 73]⟩) := (blk_cell h2 0).trans rfl
  have x21 : w.cell? ⟨g2, 1, none⟩ = some (.int .i64 a2) := (blk_cell h2 1).trans rfl
  have x22 : w.cell? ⟨g2, 2, none⟩ = some (.int .i64 b2) := (blk_cell h2 2).trans rfl
  have x23 : w.cell? ⟨g2, 3, none⟩ = some (.int .i64 c2) := (blk_cell h2 3).trans rfl
  clear h1 h2
  go_enter Try.func62, Try.ntmps62
  go_wp2
  repeat (go_quiet (fail); try go_wp2)
  go_ret
  exact ⟨ret_bool (by simp), by repeat (first | exact Drawn0.refl _ | apply Drawn0.step)⟩
theorem q62_EE (g1 g2 : Nat) (a1 b1 c1 a2 b2 c2 : Int) (w : World) (h1 : w.heap[g1]? = some (.cells #[.string ⟨#[83, 69, 83]⟩, .int .i64 a1, .int .i64 b1, .int .i64 c1] 111 (0, 0))) (h2 : w.heap[g2]? = some (.cells #[.string ⟨#[83, 69, 83]⟩, .int .i64 a2, .int .i64 b2, .int .i64 c2] 111 (0, 0))) :
    Calls Try.prog 62 #[.pointer (some ⟨g1, 0, none⟩), .pointer (some ⟨g2, 0, none⟩)] w fun e w' => e = .returned (.bool (c1 == c2)) ∧ Drawn0 w w' := by
  have x10 : w.cell? ⟨g1, 0, none⟩ = some (.string ⟨#[83, 69, 83]⟩) := (blk_cell h1 0).trans rfl
  have x11 : w.cell? ⟨g1, 1, none⟩ = some (.int .i64 a1) := (blk_cell h1 1).trans rfl
  have x12 : w.cell? ⟨g1, 2, none⟩ = some (.int .i64 b1) := (blk_cell h1 2).trans rfl
  have x13 : w.cell? ⟨g1, 3, none⟩ = some (.int .i64 c1) := (blk_cell h1 3).trans rfl
  have x20 : w.cell? ⟨g2, 0, none⟩ = some (.string ⟨#[83, 69, 83]⟩) := (blk_cell h2 0).trans rfl
  have x21 : w.cell? ⟨g2, 1, none⟩ = some (.int .i64 a2) := (blk_cell h2 1).trans rfl
  have x22 : w.cell? ⟨g2, 2, none⟩ = some (.int .i64 b2) := (blk_cell h2 2).trans rfl
  have x23 : w.cell? ⟨g2, 3, none⟩ = some (.int .i64 c2) := (blk_cell h2 3).trans rfl
  clear h1 h2
  go_enter Try.func62, Try.ntmps62
  go_wp2
  repeat (go_quiet (fail); try go_wp2)
  go_ret
  exact ⟨ret_bool (by simp), by repeat (first | exact Drawn0.refl _ | apply Drawn0.step)⟩
end Go.Proofs.Ytdifeleddhefnaa
