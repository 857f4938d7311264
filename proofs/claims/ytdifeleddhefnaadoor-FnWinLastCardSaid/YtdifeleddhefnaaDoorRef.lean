/- Contracts of the reference's functions on windows, and of the statements' own helpers. -/
import Derived.Test.YtdifeleddhefnaaDoorAsg
set_option linter.unusedVariables false
set_option linter.unusedSimpArgs false
namespace Go.Proofs.YtdifeleddhefnaaDoor
open Go.RowKit Go.Proofs.YtdifeleddhefnaaDoorW.PrintWords

theorem kSp_new (W : World) (e : Nat) (base : Nat) (hb : base ≤ W.heap.size) (x : Sp) : Kd.R kSp e (W.alloc (.cells #[.bool x.g, .int .i64 x.s, .int .i64 x.e] e)) base (fun _ => True) (.slice (some ⟨W.heap.size, 0, none⟩) 1 1) [x] :=
  ⟨fun _ _ => trivial, [.bool x.g, .int .i64 x.s, .int .i64 x.e], World.ownsRow_lit (base := base) (e := e) (size := 3) W #[.bool x.g, .int .i64 x.s, .int .i64 x.e] 1 hb (by decide) rfl, by
    have := Reps.snoc (R := kSp.M (W.alloc (.cells #[.bool x.g, .int .i64 x.s, .int .i64 x.e] e)) base (fun k => True ∧ some k ≠ (Value.slice (some ⟨W.heap.size, 0, none⟩) 1 1).ownBlock)) (size := 3) (p := x) (c := [.bool x.g, .int .i64 x.s, .int .i64 x.e]) (Reps.none _ _) (kSp_mkM _ _ _ _) rfl
    exact this⟩
theorem kSp_at (W : World) (e : Nat) (base : Nat) (x : Sp) (g : Nat) (hg : g = W.heap.size) (hb : base ≤ W.heap.size) : Kd.R kSp e (W.alloc (.cells #[.bool x.g, .int .i64 x.s, .int .i64 x.e] e)) base (fun _ => True) (.slice (some ⟨g, 0, none⟩) 1 1) [x] := by subst hg; exact kSp_new W e base hb x
theorem tmod_neg {sz t : Int} (h1 : 1 ≤ sz) (h2 : -sz < t) (h3 : t < 0) : t.tmod sz = t := by
  obtain ⟨u, rfl⟩ : ∃ u, t = -u := ⟨-t, by omega⟩
  rw [Int.neg_tmod, Int.tmod_eq_emod_of_nonneg (by omega), Int.emod_eq_of_lt (by omega) (by omega)]
theorem emod_neg' {sz t : Int} (h1 : 1 ≤ sz) (h2 : -sz < t) (h3 : t < 0) : t % sz = t + sz := by
  rw [← Int.add_emod_right (b := sz), Int.emod_eq_of_lt (by omega) (by omega)]
end Go.Proofs.YtdifeleddhefnaaDoor
