/- Contract: a value that is read: the last one that was written, or the one ahead. -/
import Derived.Test.YtoigekmdicepnaaSc
set_option linter.unusedVariables false
set_option linter.unusedSimpArgs false
namespace Go.Proofs.Ytoigekmdicepnaa
open Go.RowKit Go.Proofs.YtoigekmdicepnaaW.PrintWords Go.Proofs.YtoigekmdicepnaaW.PrintLast Go.Proofs.YtoigekmdicepnaaW.PrintMore

def stepV (c : Av) (t : Tr) : Av := if t.t = 0 then t.v else if t.t = 1 then .nil else c
def foldV (v0 : Av) (trs : List Tr) : Av := trs.foldl stepV v0
theorem foldV_succ (v0 : Av) (trs : List Tr) (k : Nat) (h : k < trs.length) : foldV v0 (trs.take (k + 1)) = stepV (foldV v0 (trs.take k)) (rdTr trs k) := by
  unfold foldV; rw [takeTr_succ trs k h, List.foldl_append]; rfl
theorem foldV_snoc (v0 : Av) (trs : List Tr) (t : Tr) : foldV v0 (trs ++ [t]) = stepV (foldV v0 trs) t := by unfold foldV; rw [List.foldl_append]; rfl
/-- A transaction of a value. -/
def TrV (t : Tr) : Prop := (∃ k n, t = ⟨k, 0, .nil, .int n⟩) ∨ (∃ k, t = ⟨k, 1, .nil, .nil⟩)
/-- A number that may be there. -/
def opt (o : Option Int) : Av := match o with | none => .nil | some n => .int n
def optN (o : Option Int) : Int := o.getD 0
theorem ta2 (n : Int) : ∀ W : World, (Instr.typeAssert (.iface 2 (.int .i64 n)) 20 2 false).run Try.prog W = .ok (.int .i64 n) W := fun _ => by kernel_rfl
set_option maxRecDepth 100000 in
set_option maxHeartbeats 2000000 in
theorem valRead_any (sb g base : Nat) (v0 : Av) (b1 k1 m1 l1 : Value) (trs : List Tr) (k : ByteArray) (o : Option Int) (w : World) (hs : w.heap[sb]? = some (.cells #[.string k] 101 (0, 0))) (h : WV w g base ⟨v0.val, b1, k1, m1, l1⟩ trs) (hf : foldV v0 trs = opt o) (ht : ∀ j, j < trs.length → TrV (rdTr trs j)) (hl : trs.length ≤ 1000000000) :
    Calls Try.prog 46 #[.pointer (some ⟨sb, 0, none⟩), .iface 94 (.pointer (some ⟨g, 0, none⟩))] w fun e w' => e = .returned (.tuple #[.int .i64 (optN o), .bool o.isSome, .nilIface]) ∧ Below w.heap.size w w' := by
  have hmf : ∀ (fn : Fn) (first cap : Array Value) (w : World), (Instr.makeFunc fn first cap).run Try.prog w = .ok (.func fn first cap) w := fun _ _ _ _ => rfl
  have hna := na_ReadValueState g
  have HS := Aside0.mk (blk_drew hs)
  have K0 := (blk_cell (blk_drew hs) 0).trans (rfl : _ = some (Value.string k))
  have HW := Aside0.mk (h.below (below_drew (Below.refl w.heap.size w)))
  have HB := Aside0.mk (below_drew (Below.refl w.heap.size w))
  have HL := Aside0.mk hl
  have HF := Aside0.mk hf
  have HT := Aside0.mk ht
  clear h hl hs hf ht
  go_enter Try.func46, Try.ntmps46
  go_wp2_with fail
  go_region_held3 (fun z => z.cell? ⟨sb, 0, none⟩ = some (.string k)) (first | exact K | exact K0 | assumption)
    ((go_at_call 156; refine (rd156_any g base _ trs k _ HW.out).mono ?_; rintro e w2 ⟨A, c, rfl, hC, hc, hb⟩; have HC := Aside0.mk (Kd.C_below hC hb); have HB2 := Aside0.mk (below_then HB.out HB.out.size hb); have K := (blk_cell (blk_below HS.out hb) 0).trans (rfl : _ = some (Value.string k)); clear hC hc hb))
  go_wp2_with fail
  go_loopg [7, 33] trs.length (fun kq v7 v33 w' => ∃ k : Nat, k ≤ trs.length ∧ Aside0 (kq = trs.length - k) ∧ v7 = (foldV v0 (trs.take k)).val ∧ v33 = .int .i64 k ∧ Aside0 (Below w2.heap.size w2 w'))
  case atStart => exact ⟨0, Nat.zero_le _, ⟨by simp⟩, by rw [List.take_zero]; rfl, rfl, ⟨Below.refl _ _⟩⟩
  case round =>
    obtain ⟨i, hi, hq, h7, rfl, HBW⟩ := hrel
    have q1 : (trs.length : Int) ≤ 1000000000 := by have := HL.out; omega
    by_cases hlt : i < trs.length
    · obtain ⟨ad, ea, x0, x1, x2, x3⟩ := atTr HC.out i hlt
      subst ea
      replace x0 := (HBW.out.cell (World.block_lt_of_cell? w2 _ x0)).trans x0
      replace x1 := (HBW.out.cell (World.block_lt_of_cell? w2 _ x1)).trans x1
      replace x2 := (HBW.out.cell (World.block_lt_of_cell? w2 _ x2)).trans x2
      replace x3 := (HBW.out.cell (World.block_lt_of_cell? w2 _ x3)).trans x3
      have H7 := Aside0.mk h7
      clear h7
      have HTT := HT.out i hlt
      have HS7 := Aside0.mk (foldV_succ v0 trs i hlt)
      generalize hx : rdTr trs i = x at x0 x1 x2 x3 HTT HS7
      clear hx
      rcases HTT with ⟨xk, n, rfl⟩ | ⟨xk, rfl⟩
      · simp only [Av.val] at x0 x1 x2 x3
        have HR := Aside0.mk (show foldV v0 (trs.take (i + 1)) = .int n by rw [HS7.out]; rfl)
        go_wp2
        go_roundg (trs.length - (i + 1))
        case measure => have := hq.out; omega
        case rel => exact ⟨i + 1, by omega, ⟨rfl⟩, by rw [HR.out]; rfl, by go_num, ⟨HBW.out.alloc HBW.out.size _⟩⟩
      · simp only [Av.val] at x0 x1 x2 x3
        have HR := Aside0.mk (show foldV v0 (trs.take (i + 1)) = .nil by rw [HS7.out]; rfl)
        go_wp2
        go_roundg (trs.length - (i + 1))
        case measure => have := hq.out; omega
        case rel => exact ⟨i + 1, by omega, ⟨rfl⟩, by rw [HR.out]; rfl, by go_num, ⟨HBW.out.alloc HBW.out.size _⟩⟩
    · have hkl : i = trs.length := by omega
      subst hkl
      rw [List.take_length, HF.out] at h7
      cases o with
      | none =>
        obtain rfl : u7 = .nilIface := h7
        go_wp2
        go_ret3
        exact ⟨rfl, below_then HB2.out HB2.out.size HBW.out⟩
      | some n =>
        obtain rfl : u7 = .iface 2 (.int .i64 n) := h7
        have hta := ta2 n
        go_wp2
        go_ret3
        exact ⟨rfl, below_then HB2.out HB2.out.size HBW.out⟩
end Go.Proofs.Ytoigekmdicepnaa
