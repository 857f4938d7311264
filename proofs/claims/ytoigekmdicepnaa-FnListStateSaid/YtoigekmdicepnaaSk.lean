/- Contracts of a bag: added to, cleared, read. -/
import Derived.Test.YtoigekmdicepnaaSi
set_option linter.unusedVariables false
set_option linter.unusedSimpArgs false
namespace Go.Proofs.Ytoigekmdicepnaa
open Go.RowKit Go.Proofs.YtoigekmdicepnaaW.PrintWords Go.Proofs.YtoigekmdicepnaaW.PrintLast Go.Proofs.YtoigekmdicepnaaW.PrintMore
open PFnMapState (S26 k26 S36 k36 k26_open k36_mkM k36_open z26 z36)

theorem info2 : (Try.prog.info? 2).map (fun i => (i.zero, i.size, i.bytes)) = some (some (.int .i64 0), 1, 8) := by kernel_rfl
/-- An empty literal that the call makes. -/
theorem R_int0 (W : World) (base : Nat) (ok : Nat → Prop) (hb : base ≤ W.heap.size) (hok : ok W.heap.size) : (Kd.int .i64).R 2 (W.alloc (.cells #[] 2)) base ok (.slice (some ⟨W.heap.size, 0, none⟩) 0 0) [] :=
  ⟨fun k hk => by have e : W.heap.size = k := by simpa [Value.ownBlock] using hk
                  subst e; exact hok, [], World.ownsRow_lit (base := base) (e := 2) (size := 1) W #[] 0 hb (by decide) rfl, Reps.none _ _⟩
theorem R_int0' (W : World) (base : Nat) (ok : Nat → Prop) (hb : base ≤ W.heap.size) (hok : ok W.heap.size) (n : Nat) (hn : n = W.heap.size) : (Kd.int .i64).R 2 (W.alloc (.cells #[] 2)) base ok (.slice (some ⟨n, 0, none⟩) 0 0) [] := by subst hn; exact R_int0 W base ok hb hok
def rdI (xs : List Int) (i : Nat) : Int := xs.getD i 0
theorem atBag {w : World} {A : Option Addr} {xs : List Int} (h : Kd.C kAv w A xs.length (xs.map Av.int)) (i : Nat) (h1 : i < xs.length) : ∃ ad, A = some ad ∧ w.cell? (ad.add i) = some (.iface 2 (.int .i64 (rdI xs i))) := by
  obtain ⟨ad, c, e, _, hK, hc0⟩ := Kd.C_get h Av.nil (i : Int) (by omega) (by omega)
  have hc : ∀ j u, c[j]? = some u → w.cell? (ad.add (i * 1 + j)) = some u := hc0
  obtain rfl : c = [((xs.map Av.int).getD i Av.nil).val] := hK
  have e1 : (xs.map Av.int).getD i Av.nil = Av.int (rdI xs i) := by simp [rdI, List.getD_eq_getElem?_getD, h1]
  rw [e1] at hc
  exact ⟨ad, e, (by have := hc 0 _ rfl; simpa using this : w.cell? (ad.add i) = some (Av.int (rdI xs i)).val)⟩
theorem takeI_succ (l : List Int) (k : Nat) (h : k < l.length) : l.take (k + 1) = l.take k ++ [rdI l k] := by
  rw [List.take_succ_eq_append_getElem h]; simp [rdI, List.getD_eq_getElem?_getD, h]
def TrB (t : Tr) : Prop := (∃ k n, t = ⟨k, 2, .nil, .int n⟩) ∨ (∃ k, t = ⟨k, 1, .nil, .nil⟩)
def stepB (c : List Int) (t : Tr) : List Int := if t.t = 2 then (match t.v with | .int n => c ++ [n] | _ => c) else if t.t = 1 then [] else c
def foldB (c : List Int) (trs : List Tr) : List Int := trs.foldl stepB c
theorem foldB_succ (c : List Int) (trs : List Tr) (k : Nat) (h : k < trs.length) : foldB c (trs.take (k + 1)) = stepB (foldB c (trs.take k)) (rdTr trs k) := by
  unfold foldB; rw [takeTr_succ trs k h, List.foldl_append]; rfl
theorem foldB_snoc (c : List Int) (trs : List Tr) (t : Tr) : foldB c (trs ++ [t]) = stepB (foldB c trs) t := by unfold foldB; rw [List.foldl_append]; rfl
theorem foldB_len (c : List Int) (trs : List Tr) : (foldB c trs).length ≤ c.length + trs.length := by
  unfold foldB
  induction trs generalizing c with
  | nil => simp
  | cons t ts ih =>
    have h := ih (stepB c t)
    have h2 : (stepB c t).length ≤ c.length + 1 := by
      unfold stepB
      split
      · split <;> simp
      · split <;> simp
    simp only [List.foldl_cons, List.length_cons] at h ⊢
    omega

set_option maxRecDepth 100000 in
set_option maxHeartbeats 1000000 in
theorem bagAdd_any (sb g base : Nat) (p : Pv) (trs : List Tr) (k : ByteArray) (n : Int) (w0 w : World) (hs : w.heap[sb]? = some (.cells #[.string k] 126 (0, 0))) (h : WV w g base p trs) (hB : Below base w0 w) (hl : trs.length ≤ 1000000000) :
    Calls Try.prog 59 #[.pointer (some ⟨sb, 0, none⟩), .iface 94 (.pointer (some ⟨g, 0, none⟩)), .int .i64 n] w fun e w' => e = .returned .nilIface ∧ WV w' g base p (trs ++ [⟨k, 2, .nil, .int n⟩]) ∧ Keep w w' ∧ Below base w0 w' := by
  have hmf : ∀ (fn : Fn) (first cap : Array Value) (w : World), (Instr.makeFunc fn first cap).run Try.prog w = .ok (.func fn first cap) w := fun _ _ _ _ => rfl
  have hna := na_WriteBagState g
  have HS := Aside0.mk (blk_drew hs)
  have K0 := (blk_cell (blk_drew hs) 0).trans (rfl : _ = some (Value.string k))
  have HW := Aside0.mk (h.below (below_drew (Below.refl w.heap.size w)))
  have HK := Aside0.mk (Keep.below (below_drew (Below.refl w.heap.size w)))
  have HB := Aside0.mk (below_drew hB)
  have HL := Aside0.mk hl
  clear h hB hl hs
  go_enter Try.func59, Try.ntmps59
  go_wp2_with fail
  go_region_held3 (fun z => z.cell? ⟨sb, 0, none⟩ = some (.string k)) (first | exact K | exact K0 | assumption)
    ((go_at_call 157; refine (wr157_any g base p trs (k) (2) (.nil) (.int n) w0 _ HW.out HB.out HL.out).mono ?_; rintro e w2 ⟨rfl, h1, h2, h3⟩; have H1 := Aside0.mk h1; have H2 := Aside0.mk h2; have H3 := Aside0.mk h3; have K := (blk_cell (h2.blk HS.out (by decide) (by decide)) 0).trans (rfl : _ = some (Value.string k)); clear h1 h2 h3))
  go_wp2
  go_ret
  exact ⟨rfl, H1.out, HK.out.trans H2.out, H3.out⟩

set_option maxRecDepth 100000 in
set_option maxHeartbeats 1000000 in
theorem bagClear_any (sb g base : Nat) (p : Pv) (trs : List Tr) (k : ByteArray) (w0 w : World) (hs : w.heap[sb]? = some (.cells #[.string k] 126 (0, 0))) (h : WV w g base p trs) (hB : Below base w0 w) (hl : trs.length ≤ 1000000000) :
    Calls Try.prog 60 #[.pointer (some ⟨sb, 0, none⟩), .iface 94 (.pointer (some ⟨g, 0, none⟩))] w fun e w' => e = .returned .nilIface ∧ WV w' g base p (trs ++ [⟨k, 1, .nil, .nil⟩]) ∧ Keep w w' ∧ Below base w0 w' := by
  have hmf : ∀ (fn : Fn) (first cap : Array Value) (w : World), (Instr.makeFunc fn first cap).run Try.prog w = .ok (.func fn first cap) w := fun _ _ _ _ => rfl
  have hna := na_ClearBagState g
  have HS := Aside0.mk (blk_drew hs)
  have K0 := (blk_cell (blk_drew hs) 0).trans (rfl : _ = some (Value.string k))
  have HW := Aside0.mk (h.below (below_drew (Below.refl w.heap.size w)))
  have HK := Aside0.mk (Keep.below (below_drew (Below.refl w.heap.size w)))
  have HB := Aside0.mk (below_drew hB)
  have HL := Aside0.mk hl
  clear h hB hl hs
  go_enter Try.func60, Try.ntmps60
  go_wp2_with fail
  go_region_held3 (fun z => z.cell? ⟨sb, 0, none⟩ = some (.string k)) (first | exact K | exact K0 | assumption)
    ((go_at_call 147; refine (wr147_any g base p trs (k) (1) (.nil) (.nil) w0 _ HW.out HB.out HL.out).mono ?_; rintro e w2 ⟨rfl, h1, h2, h3⟩; have H1 := Aside0.mk h1; have H2 := Aside0.mk h2; have H3 := Aside0.mk h3; have K := (blk_cell (h2.blk HS.out (by decide) (by decide)) 0).trans (rfl : _ = some (Value.string k)); clear h1 h2 h3))
  go_wp2
  go_ret
  exact ⟨rfl, H1.out, HK.out.trans H2.out, H3.out⟩
end Go.Proofs.Ytoigekmdicepnaa
