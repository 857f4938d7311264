/- Contracts of a timer's calls Set, Clear, ClearTag. -/
import Derived.Test.YtoigekmdicepnaaTb
set_option linter.unusedVariables false
set_option linter.unusedSimpArgs false
namespace Go.Proofs.Ytoigekmdicepnaa
open Go.RowKit Go.Proofs.YtoigekmdicepnaaW.PrintWords Go.Proofs.YtoigekmdicepnaaW.PrintLast Go.Proofs.YtoigekmdicepnaaW.PrintMore

/-- What Set gives the provider. -/
def setTM (fam : ByteArray) (ft : Int) (os : List Op3) : TM := ⟨fam, (appAll os).t, false, cutT ft, if (appAll os).b then (appAll os).h else cutT ft⟩

theorem ptClear_any (fam : ByteArray) (g base : Nat) (xs : List TM) (w0 w : World) (hG : GV w g base xs) (hB : Below base w0 w) (hl : xs.length ≤ 1000000000) :
    Calls Try.prog 50 #[.agg #[.string fam], .iface 110 (.pointer (some ⟨g, 0, none⟩))] w fun e w' => e = .returned (.tuple #[]) ∧ GV w' g base (xs ++ [⟨fam, ByteArray.empty, true, 0, 0⟩]) ∧ Below base w0 w' := by
  have HBS := Aside0.mk (show base ≤ w.heap.size by obtain ⟨v, h1, _, h3⟩ := hG; have := blk_lt h1; omega)
  have HG := Aside0.mk hG
  have HB := Aside0.mk hB
  have HL := Aside0.mk hl
  clear hG hB hl
  go_enter Try.func50, Try.ntmps50
  go_wp2_with (go_at_call 163; refine (given_set g base xs _ _ _ _ _ w0 _ ?ga ?gb ?gc).mono ?_; (case ga => exact HG.out.below (below_alloc (Below.refl _ _) _)); (case gb => exact HB.out.alloc HBS.out _); (case gc => exact HL.out); rintro e_ w7 ⟨rfl, h1, h2⟩)
  go_end0
  exact ⟨rfl, h1, h2⟩
theorem ptClearTag_any (fam tg : ByteArray) (g base : Nat) (xs : List TM) (w0 w : World) (hG : GV w g base xs) (hB : Below base w0 w) (hl : xs.length ≤ 1000000000) :
    Calls Try.prog 52 #[.agg #[.string fam], .iface 110 (.pointer (some ⟨g, 0, none⟩)), .string tg] w fun e w' => e = .returned (.tuple #[]) ∧ GV w' g base (xs ++ [⟨fam, tg, true, 0, 0⟩]) ∧ Below base w0 w' := by
  have HBS := Aside0.mk (show base ≤ w.heap.size by obtain ⟨v, h1, _, h3⟩ := hG; have := blk_lt h1; omega)
  have HG := Aside0.mk hG
  have HB := Aside0.mk hB
  have HL := Aside0.mk hl
  clear hG hB hl
  go_enter Try.func52, Try.ntmps52
  go_wp2_with (go_at_call 163; refine (given_set g base xs _ _ _ _ _ w0 _ ?ga ?gb ?gc).mono ?_; (case ga => exact HG.out.below (below_alloc (Below.refl _ _) _)); (case gb => exact HB.out.alloc HBS.out _); (case gc => exact HL.out); rintro e_ w7 ⟨rfl, h1, h2⟩)
  go_end0
  exact ⟨rfl, h1, h2⟩

theorem etClear_any (fam : ByteArray) (g base : Nat) (xs : List TM) (w0 w : World) (hG : GV w g base xs) (hB : Below base w0 w) (hl : xs.length ≤ 1000000000) :
    Calls Try.prog 51 #[.agg #[.string fam], .iface 110 (.pointer (some ⟨g, 0, none⟩))] w fun e w' => e = .returned (.tuple #[]) ∧ GV w' g base (xs ++ [⟨fam, ByteArray.empty, true, 0, 0⟩]) ∧ Below base w0 w' := by
  have HBS := Aside0.mk (show base ≤ w.heap.size by obtain ⟨v, h1, _, h3⟩ := hG; have := blk_lt h1; omega)
  have HG := Aside0.mk hG
  have HB := Aside0.mk hB
  have HL := Aside0.mk hl
  clear hG hB hl
  go_enter Try.func51, Try.ntmps51
  go_wp2_with (go_at_call 163; refine (given_set g base xs _ _ _ _ _ w0 _ ?ga ?gb ?gc).mono ?_; (case ga => exact HG.out.below (below_alloc (Below.refl _ _) _)); (case gb => exact HB.out.alloc HBS.out _); (case gc => exact HL.out); rintro e_ w7 ⟨rfl, h1, h2⟩)
  go_end0
  exact ⟨rfl, h1, h2⟩
theorem etClearTag_any (fam tg : ByteArray) (g base : Nat) (xs : List TM) (w0 w : World) (hG : GV w g base xs) (hB : Below base w0 w) (hl : xs.length ≤ 1000000000) :
    Calls Try.prog 53 #[.agg #[.string fam], .iface 110 (.pointer (some ⟨g, 0, none⟩)), .string tg] w fun e w' => e = .returned (.tuple #[]) ∧ GV w' g base (xs ++ [⟨fam, tg, true, 0, 0⟩]) ∧ Below base w0 w' := by
  have HBS := Aside0.mk (show base ≤ w.heap.size by obtain ⟨v, h1, _, h3⟩ := hG; have := blk_lt h1; omega)
  have HG := Aside0.mk hG
  have HB := Aside0.mk hB
  have HL := Aside0.mk hl
  clear hG hB hl
  go_enter Try.func53, Try.ntmps53
  go_wp2_with (go_at_call 163; refine (given_set g base xs _ _ _ _ _ w0 _ ?ga ?gb ?gc).mono ?_; (case ga => exact HG.out.below (below_alloc (Below.refl _ _) _)); (case gb => exact HB.out.alloc HBS.out _); (case gc => exact HL.out); rintro e_ w7 ⟨rfl, h1, h2⟩)
  go_end0
  exact ⟨rfl, h1, h2⟩
end Go.Proofs.Ytoigekmdicepnaa
