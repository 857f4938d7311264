/- Contracts of a value's state. -/
import Derived.Test.YtoigekmdicepnaaSb
set_option linter.unusedVariables false
set_option linter.unusedSimpArgs false
namespace Go.Proofs.Ytoigekmdicepnaa
open Go.RowKit Go.Proofs.YtoigekmdicepnaaW.PrintWords Go.Proofs.YtoigekmdicepnaaW.PrintLast Go.Proofs.YtoigekmdicepnaaW.PrintMore
theorem na_WriteValueState (g : Nat) : ∀ W : World, (nilAhead 385 94 (.pointer (some ⟨g, 0, none⟩)) "WriteValueState").run Try.prog W = .ok (some false) W := fun _ => by kernel_rfl
theorem na_ClearValueState (g : Nat) : ∀ W : World, (nilAhead 385 94 (.pointer (some ⟨g, 0, none⟩)) "ClearValueState").run Try.prog W = .ok (some false) W := fun _ => by kernel_rfl
theorem na_ReadValueState (g : Nat) : ∀ W : World, (nilAhead 385 94 (.pointer (some ⟨g, 0, none⟩)) "ReadValueState").run Try.prog W = .ok (some false) W := fun _ => by kernel_rfl
theorem na_WriteBagState (g : Nat) : ∀ W : World, (nilAhead 385 94 (.pointer (some ⟨g, 0, none⟩)) "WriteBagState").run Try.prog W = .ok (some false) W := fun _ => by kernel_rfl
theorem na_ClearBagState (g : Nat) : ∀ W : World, (nilAhead 385 94 (.pointer (some ⟨g, 0, none⟩)) "ClearBagState").run Try.prog W = .ok (some false) W := fun _ => by kernel_rfl
theorem na_ReadBagState (g : Nat) : ∀ W : World, (nilAhead 385 94 (.pointer (some ⟨g, 0, none⟩)) "ReadBagState").run Try.prog W = .ok (some false) W := fun _ => by kernel_rfl
theorem na_WriteMapState (g : Nat) : ∀ W : World, (nilAhead 385 94 (.pointer (some ⟨g, 0, none⟩)) "WriteMapState").run Try.prog W = .ok (some false) W := fun _ => by kernel_rfl
theorem na_ClearMapState (g : Nat) : ∀ W : World, (nilAhead 385 94 (.pointer (some ⟨g, 0, none⟩)) "ClearMapState").run Try.prog W = .ok (some false) W := fun _ => by kernel_rfl
theorem na_ClearMapStateKey (g : Nat) : ∀ W : World, (nilAhead 385 94 (.pointer (some ⟨g, 0, none⟩)) "ClearMapStateKey").run Try.prog W = .ok (some false) W := fun _ => by kernel_rfl
theorem na_ReadMapStateKeys (g : Nat) : ∀ W : World, (nilAhead 385 94 (.pointer (some ⟨g, 0, none⟩)) "ReadMapStateKeys").run Try.prog W = .ok (some false) W := fun _ => by kernel_rfl
theorem na_ReadMapStateValue (g : Nat) : ∀ W : World, (nilAhead 385 94 (.pointer (some ⟨g, 0, none⟩)) "ReadMapStateValue").run Try.prog W = .ok (some false) W := fun _ => by kernel_rfl
theorem na_WriteOrderedListState (g : Nat) : ∀ W : World, (nilAhead 385 94 (.pointer (some ⟨g, 0, none⟩)) "WriteOrderedListState").run Try.prog W = .ok (some false) W := fun _ => by kernel_rfl
theorem na_ClearOrderedListState (g : Nat) : ∀ W : World, (nilAhead 385 94 (.pointer (some ⟨g, 0, none⟩)) "ClearOrderedListState").run Try.prog W = .ok (some false) W := fun _ => by kernel_rfl
theorem na_ReadOrderedListState (g : Nat) : ∀ W : World, (nilAhead 385 94 (.pointer (some ⟨g, 0, none⟩)) "ReadOrderedListState").run Try.prog W = .ok (some false) W := fun _ => by kernel_rfl

set_option maxRecDepth 100000 in
set_option maxHeartbeats 1000000 in
theorem valWrite_any (sb g base : Nat) (p : Pv) (trs : List Tr) (k : ByteArray) (n : Int) (w0 w : World) (hs : w.heap[sb]? = some (.cells #[.string k] 101 (0, 0))) (h : WV w g base p trs) (hB : Below base w0 w) (hl : trs.length ≤ 1000000000) :
    Calls Try.prog 44 #[.pointer (some ⟨sb, 0, none⟩), .iface 94 (.pointer (some ⟨g, 0, none⟩)), .int .i64 n] w fun e w' => e = .returned .nilIface ∧ WV w' g base p (trs ++ [⟨k, 0, .nil, .int n⟩]) ∧ Keep w w' ∧ Below base w0 w' := by
  have hmf : ∀ (fn : Fn) (first cap : Array Value) (w : World), (Instr.makeFunc fn first cap).run Try.prog w = .ok (.func fn first cap) w := fun _ _ _ _ => rfl
  have hna := na_WriteValueState g
  have HS := Aside0.mk (blk_drew hs)
  have K0 := (blk_cell (blk_drew hs) 0).trans (rfl : _ = some (Value.string k))
  have HW := Aside0.mk (h.below (below_drew (Below.refl w.heap.size w)))
  have HK := Aside0.mk (Keep.below (below_drew (Below.refl w.heap.size w)))
  have HB := Aside0.mk (below_drew hB)
  have HL := Aside0.mk hl
  clear h hB hl hs
  go_enter Try.func44, Try.ntmps44
  go_wp2_with fail
  go_region_held3 (fun z => z.cell? ⟨sb, 0, none⟩ = some (.string k)) (first | exact K | exact K0 | assumption)
    ((go_at_call 160; refine (wr160_any g base p trs (k) (0) (.nil) (.int n) w0 _ HW.out HB.out HL.out).mono ?_; rintro e w2 ⟨rfl, h1, h2, h3⟩; have H1 := Aside0.mk h1; have H2 := Aside0.mk h2; have H3 := Aside0.mk h3; have K := (blk_cell (h2.blk HS.out (by decide) (by decide)) 0).trans (rfl : _ = some (Value.string k)); clear h1 h2 h3))
  go_wp2
  go_ret
  exact ⟨rfl, H1.out, HK.out.trans H2.out, H3.out⟩

set_option maxRecDepth 100000 in
set_option maxHeartbeats 1000000 in
theorem valClear_any (sb g base : Nat) (p : Pv) (trs : List Tr) (k : ByteArray) (w0 w : World) (hs : w.heap[sb]? = some (.cells #[.string k] 101 (0, 0))) (h : WV w g base p trs) (hB : Below base w0 w) (hl : trs.length ≤ 1000000000) :
    Calls Try.prog 45 #[.pointer (some ⟨sb, 0, none⟩), .iface 94 (.pointer (some ⟨g, 0, none⟩))] w fun e w' => e = .returned .nilIface ∧ WV w' g base p (trs ++ [⟨k, 1, .nil, .nil⟩]) ∧ Keep w w' ∧ Below base w0 w' := by
  have hmf : ∀ (fn : Fn) (first cap : Array Value) (w : World), (Instr.makeFunc fn first cap).run Try.prog w = .ok (.func fn first cap) w := fun _ _ _ _ => rfl
  have hna := na_ClearValueState g
  have HS := Aside0.mk (blk_drew hs)
  have K0 := (blk_cell (blk_drew hs) 0).trans (rfl : _ = some (Value.string k))
  have HW := Aside0.mk (h.below (below_drew (Below.refl w.heap.size w)))
  have HK := Aside0.mk (Keep.below (below_drew (Below.refl w.heap.size w)))
  have HB := Aside0.mk (below_drew hB)
  have HL := Aside0.mk hl
  clear h hB hl hs
  go_enter Try.func45, Try.ntmps45
  go_wp2_with fail
  go_region_held3 (fun z => z.cell? ⟨sb, 0, none⟩ = some (.string k)) (first | exact K | exact K0 | assumption)
    ((go_at_call 151; refine (wr151_any g base p trs (k) (1) (.nil) (.nil) w0 _ HW.out HB.out HL.out).mono ?_; rintro e w2 ⟨rfl, h1, h2, h3⟩; have H1 := Aside0.mk h1; have H2 := Aside0.mk h2; have H3 := Aside0.mk h3; have K := (blk_cell (h2.blk HS.out (by decide) (by decide)) 0).trans (rfl : _ = some (Value.string k)); clear h1 h2 h3))
  go_wp2
  go_ret
  exact ⟨rfl, H1.out, HK.out.trans H2.out, H3.out⟩
end Go.Proofs.Ytoigekmdicepnaa
