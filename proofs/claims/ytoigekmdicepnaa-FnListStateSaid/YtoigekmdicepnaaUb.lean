/- Contracts of an ordered list: added to, cleared. -/
import Derived.Test.YtoigekmdicepnaaUa
set_option linter.unusedVariables false
set_option linter.unusedSimpArgs false
namespace Go.Proofs.Ytoigekmdicepnaa
open Go.RowKit Go.Proofs.YtoigekmdicepnaaW.PrintWords Go.Proofs.YtoigekmdicepnaaW.PrintLast Go.Proofs.YtoigekmdicepnaaW.PrintMore
set_option maxRecDepth 100000 in
set_option maxHeartbeats 1000000 in
theorem listAdd_any (sb g base : Nat) (p : Pv) (trs : List Tr) (k : ByteArray) (a n : Int) (w0 w : World) (hs : w.heap[sb]? = some (.cells #[.string k] 132 (0, 0))) (h : WV w g base p trs) (hB : Below base w0 w) (hl : trs.length ≤ 1000000000) :
    Calls Try.prog 63 #[.pointer (some ⟨sb, 0, none⟩), .iface 94 (.pointer (some ⟨g, 0, none⟩)), .int .i64 a, .int .i64 n] w fun e w' => e = .returned .nilIface ∧ WV w' g base p (trs ++ [⟨k, 2, .int a, .int n⟩]) ∧ Keep w w' ∧ Below base w0 w' := by
  have hmf : ∀ (fn : Fn) (first cap : Array Value) (w : World), (Instr.makeFunc fn first cap).run Try.prog w = .ok (.func fn first cap) w := fun _ _ _ _ => rfl
  have hna := na_WriteOrderedListState g
  have HS := Aside0.mk (blk_drew hs)
  have K0 := (blk_cell (blk_drew hs) 0).trans (rfl : _ = some (Value.string k))
  have HW := Aside0.mk (h.below (below_drew (Below.refl w.heap.size w)))
  have HK := Aside0.mk (Keep.below (below_drew (Below.refl w.heap.size w)))
  have HB := Aside0.mk (below_drew hB)
  have HL := Aside0.mk hl
  clear h hB hl hs
  go_enter Try.func63, Try.ntmps63
  go_wp2_with fail
  go_region_held3 (fun z => z.cell? ⟨sb, 0, none⟩ = some (.string k)) (first | exact K | exact K0 | assumption)
    ((go_at_call 159; refine (wr159_any g base p trs (k) (2) (.int a) (.int n) w0 _ HW.out HB.out HL.out).mono ?_; rintro e w2 ⟨rfl, h1, h2, h3⟩; have H1 := Aside0.mk h1; have H2 := Aside0.mk h2; have H3 := Aside0.mk h3; have K := (blk_cell (h2.blk HS.out (by decide) (by decide)) 0).trans (rfl : _ = some (Value.string k)); clear h1 h2 h3))
  go_wp2
  go_ret
  exact ⟨rfl, H1.out, HK.out.trans H2.out, H3.out⟩
set_option maxRecDepth 100000 in
set_option maxHeartbeats 1000000 in
theorem listClr_any (sb g base : Nat) (p : Pv) (trs : List Tr) (k : ByteArray) (a b : Int) (w0 w : World) (hs : w.heap[sb]? = some (.cells #[.string k] 132 (0, 0))) (h : WV w g base p trs) (hB : Below base w0 w) (hl : trs.length ≤ 1000000000) :
    Calls Try.prog 65 #[.pointer (some ⟨sb, 0, none⟩), .iface 94 (.pointer (some ⟨g, 0, none⟩)), .int .i64 a, .int .i64 b] w fun e w' => e = .returned .nilIface ∧ WV w' g base p (trs ++ [⟨k, 1, .rg a b, .nil⟩]) ∧ Keep w w' ∧ Below base w0 w' := by
  have hmf : ∀ (fn : Fn) (first cap : Array Value) (w : World), (Instr.makeFunc fn first cap).run Try.prog w = .ok (.func fn first cap) w := fun _ _ _ _ => rfl
  have hna := na_ClearOrderedListState g
  have HS := Aside0.mk (blk_drew hs)
  have K0 := (blk_cell (blk_drew hs) 0).trans (rfl : _ = some (Value.string k))
  have HW := Aside0.mk (h.below (below_drew (Below.refl w.heap.size w)))
  have HK := Aside0.mk (Keep.below (below_drew (Below.refl w.heap.size w)))
  have HB := Aside0.mk (below_drew hB)
  have HL := Aside0.mk hl
  clear h hB hl hs
  go_enter Try.func65, Try.ntmps65
  go_wp2_with fail
  go_region_held3 (fun z => z.cell? ⟨sb, 0, none⟩ = some (.string k)) (first | exact K | exact K0 | assumption)
    ((go_at_call 150; refine (wr150_any g base p trs (k) (1) (.rg a b) (.nil) w0 _ HW.out HB.out HL.out).mono ?_; rintro e w2 ⟨rfl, h1, h2, h3⟩; have H1 := Aside0.mk h1; have H2 := Aside0.mk h2; have H3 := Aside0.mk h3; have K := (blk_cell (h2.blk HS.out (by decide) (by decide)) 0).trans (rfl : _ = some (Value.string k)); clear h1 h2 h3))
  go_wp2
  go_ret
  exact ⟨rfl, H1.out, HK.out.trans H2.out, H3.out⟩
set_option maxRecDepth 100000 in
theorem listAll_any (sb g base : Nat) (p : Pv) (trs : List Tr) (k : ByteArray) (w0 w : World) (hs : w.heap[sb]? = some (.cells #[.string k] 132 (0, 0))) (h : WV w g base p trs) (hB : Below base w0 w) (hl : trs.length ≤ 1000000000) :
    Calls Try.prog 64 #[.pointer (some ⟨sb, 0, none⟩), .iface 94 (.pointer (some ⟨g, 0, none⟩))] w fun e w' => e = .returned .nilIface ∧ WV w' g base p (trs ++ [⟨k, 1, .rg (-9223372036854775808) 9223372036854775807, .nil⟩]) ∧ Keep w w' ∧ Below base w0 w' := by
  have HS := Aside0.mk hs
  have HW := Aside0.mk h
  have HB := Aside0.mk hB
  have HL := Aside0.mk hl
  clear h hB hl hs
  go_enter Try.func64, Try.ntmps64
  go_wp2_with (go_at_call 65; refine (listClr_any sb g base p trs k (-9223372036854775808) 9223372036854775807 w0 _ HS.out HW.out HB.out HL.out).mono ?_; rintro e w2 ⟨rfl, h1, h2, h3⟩; have H1 := Aside0.mk h1; have H2 := Aside0.mk h2; have H3 := Aside0.mk h3; clear h1 h2 h3)
  go_ret
  exact ⟨rfl, H1.out, H2.out, H3.out⟩
theorem mkL_any (s : ByteArray) (w : World) : Calls Try.prog 62 #[.string s] w fun e w' => e = .returned (.agg #[.string s]) ∧ Below w.heap.size w w' := by
  go_enter Try.func62, Try.ntmps62
  go_wp2
  go_returns
  exact ⟨rfl, by repeat (first | exact Below.refl _ _ | apply below_alloc | apply below_drew | refine below_set ?_ (by simp) | (refine Below.setCell ?_ (by simp) _))⟩
end Go.Proofs.Ytoigekmdicepnaa
