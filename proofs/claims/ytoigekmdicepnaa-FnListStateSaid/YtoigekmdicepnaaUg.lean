/- The answers of an ordered list, and what the transactions tell. -/
import Derived.Test.YtoigekmdicepnaaUf
set_option linter.unusedVariables false
set_option linter.unusedSimpArgs false
namespace Go.Proofs.Ytoigekmdicepnaa
open Go.RowKit Go.Proofs.YtoigekmdicepnaaW.PrintWords Go.Proofs.YtoigekmdicepnaaW.PrintLast Go.Proofs.YtoigekmdicepnaaW.PrintMore
open PFnMapState (S26 k26 S36 k36 k26_open k36_mkM k36_open z26 z36)
open Go.Proofs.Ytoigekmdicepnaa.Ord (E2 ins isort Tx inR tx1 replay Asc Down addF ref1)

def opL (s : S26) : Prop := s.f0 = 0 ∨ s.f0 = 1 ∨ s.f0 = 2 ∨ s.f0 = 5 ∨ s.f0 = 6
theorem okStep_opL {s : S26} (h : okStep [0, 1, 2, 5, 6] s) : opL s := by
  have h1 := h.1
  simp only [List.contains_cons, List.contains_nil, Bool.or_false, Bool.or_eq_true, beq_iff_eq] at h1
  unfold opL; omega
def rdL (p : List E2) : S36 := ⟨decide (0 < p.length), k2 p, [], k1 p⟩
/-- The answers of a list's calls. -/
def ansL : List S26 → List E2 → List S36
  | [], _ => []
  | s :: l, cur => if s.f0 = 0 then ansL l (ins s.f3 s.f2 cur) else if s.f0 = 1 then ansL l [] else if s.f0 = 6 then ansL l (cur.filter (pt s.f3 s.f4 true)) else if s.f0 = 5 then rdL (cur.filter (pt s.f3 s.f4 false)) :: ansL l cur else rdL cur :: ansL l cur
theorem ansL_len : ∀ (l : List S26) (cur : List E2), (ansL l cur).length ≤ l.length
  | [], _ => Nat.le_refl _
  | s :: l, cur => by
    unfold ansL
    split
    · exact Nat.le_succ_of_le (ansL_len l _)
    · split
      · exact Nat.le_succ_of_le (ansL_len l _)
      · split
        · exact Nat.le_succ_of_le (ansL_len l _)
        · split
          · exact Nat.succ_le_succ (ansL_len l _)
          · exact Nat.succ_le_succ (ansL_len l _)
/-- What all transactions leave, sorted. -/
def allT (es : List E2) (trs : List Tr) : List E2 := isort (replay (fun _ => true) es (trs.map txOf))
theorem allT_snoc (es : List E2) (trs : List Tr) (t : Tr) : allT es (trs ++ [t]) = ref1 (allT es trs) (txOf t) := by
  unfold allT; rw [List.map_append]; exact Ord.ref_next es _ (txOf t)
theorem rr_all (lo hi : Int) (es : List E2) (trs : List Tr) : rr lo hi es trs = (allT es trs).filter (inE lo hi) := Ord.read_range (inR lo hi) es (trs.map txOf)
/-- All keys are small. -/
def KB (l : List E2) : Prop := ∀ x ∈ l, -1000000 ≤ x.1 ∧ x.1 ≤ 1000000
theorem KB.ins {l : List E2} {a v : Int} (h : KB l) (h1 : -1000000 ≤ a) (h2 : a ≤ 1000000) : KB (ins a v l) := fun x hx => by
  rcases Ord.ins_mem hx with rfl | hx
  · exact ⟨h1, h2⟩
  · exact h x hx
theorem KB.filter {l : List E2} (h : KB l) (p : E2 → Bool) : KB (l.filter p) := fun x hx => h x (List.mem_filter.1 hx).1
theorem KB.wide {l : List E2} (h : KB l) : ∀ x ∈ l, (-9223372036854775808 : Int) ≤ x.1 ∧ x.1 < 9223372036854775807 := fun x hx => by
  have := h x hx; omega
theorem next_app {es : List E2} {trs : List Tr} {cur : List E2} (h : allT es trs = cur) (k : ByteArray) (a n : Int) : allT es (trs ++ [⟨k, 2, .int a, .int n⟩]) = ins a n cur := by rw [allT_snoc, h]; rfl
theorem next_clr {es : List E2} {trs : List Tr} {cur : List E2} (h : allT es trs = cur) (k : ByteArray) (a b : Int) : allT es (trs ++ [⟨k, 1, .rg a b, .nil⟩]) = cur.filter (pt a b true) := by
  rw [allT_snoc, h]
  show cur.filter (fun x => !(inR a b x.1)) = _
  congr 1; funext x; unfold pt; cases inR a b x.1 <;> rfl
theorem next_all {es : List E2} {trs : List Tr} {cur : List E2} (h : allT es trs = cur) (hk : KB cur) (k : ByteArray) : allT es (trs ++ [⟨k, 1, .rg (-9223372036854775808) 9223372036854775807, .nil⟩]) = [] := by
  rw [allT_snoc, h]; exact Ord.clr_all hk.wide
theorem read_part {es : List E2} {trs : List Tr} {cur : List E2} (h : allT es trs = cur) (a b : Int) : rr a b es trs = cur.filter (pt a b false) := by
  rw [rr_all, h]; congr 1; funext x; unfold pt inE; cases inR a b x.1 <;> rfl
theorem read_whole {es : List E2} {trs : List Tr} {cur : List E2} (h : allT es trs = cur) (hk : KB cur) : rr (-9223372036854775808) 9223372036854775807 es trs = cur := by
  rw [rr_all, h]; exact Ord.read_all hk.wide
theorem allT_nil (es : List E2) : allT es [] = isort es := rfl
theorem allT_len (es : List E2) (trs : List Tr) : (allT es trs).length ≤ es.length + trs.length := by
  unfold allT; rw [Ord.isort_len]; have h := replay_len (fun _ => true) (trs.map txOf) es; rw [List.length_map] at h; exact h
set_option maxRecDepth 100000 in
theorem listRead_any (sb g base : Nat) (v1 b1 k1 m1 : Value) (Al : Option Addr) (cl : Nat) (es : List E2) (trs : List Tr) (k : ByteArray) (w : World) (hs : w.heap[sb]? = some (.cells #[.string k] 132 (0, 0))) (h : WV w g base ⟨v1, b1, k1, m1, .slice Al es.length cl⟩ trs) (hb : Kd.C kAv w Al es.length (enA es)) (ht : ∀ j, j < trs.length → TrL (rdTr trs j)) (hl : trs.length ≤ 1000000) (hl2 : es.length ≤ 1000000) (cur : List E2) (ha : rr (-9223372036854775808) 9223372036854775807 es trs = cur) :
    Calls Try.prog 66 #[.pointer (some ⟨sb, 0, none⟩), .iface 94 (.pointer (some ⟨g, 0, none⟩))] w fun e w' => ∃ A c, e = .returned (.tuple #[.slice A cur.length c, .bool (decide (0 < cur.length)), .nilIface]) ∧ kOl.C w' A cur.length cur ∧ cur.length ≤ c ∧ Below w.heap.size w w' := by
  have HS := Aside0.mk hs
  have HW := Aside0.mk h
  have HL := Aside0.mk hl
  have HL2 := Aside0.mk hl2
  have HC0 := Aside0.mk hb
  have HT := Aside0.mk ht
  have HA := Aside0.mk ha
  clear h hl hs hb ht hl2 ha
  go_enter Try.func66, Try.ntmps66
  go_wp2_with (go_at_call 67; refine (readRange_any sb g base (-9223372036854775808) 9223372036854775807 v1 b1 k1 m1 Al cl es trs k _ HS.out HW.out HC0.out HT.out HL.out HL2.out).mono ?_; rintro e_ w2 ⟨A, c, rfl, hC, hc, hb⟩; rw [HA.out] at hC hc ⊢; have HC := Aside0.mk hC; have HCC := Aside0.mk hc; have HB := Aside0.mk hb; clear hC hc hb)
  go_ret3
  exact ⟨A, c, rfl, HC.out, HCC.out, HB.out⟩
end Go.Proofs.Ytoigekmdicepnaa
