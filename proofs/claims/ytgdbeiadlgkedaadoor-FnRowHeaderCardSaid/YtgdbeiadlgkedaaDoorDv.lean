/- Contracts: DecodeValue of numbers. -/
import Derived.Test.YtgdbeiadlgkedaaDoorEv
import Derived.Test.YtgdbeiadlgkedaaDoorDy
import Derived.Lib.ConvBytes
import Derived.Lib.SmallJoins
namespace Go.Proofs.YtgdbeiadlgkedaaDoor
open Go.RowKit
open Go.Joins (below_bytesWorld)
set_option linter.unusedVariables false
set_option linter.unusedSimpArgs false

theorem Rd.keptRG {r g : Nat} {l : List UInt8} {i : Nat} {w w' : World} (h : Rd r g l i w) (hr : w'.heap[r]? = w.heap[r]?) (hg : w'.heap[g]? = w.heap[g]?) : Rd r g l i w' := by
  obtain ⟨c, pv, h1, h2, h3, h4, h5, h6, ⟨o, h7⟩, h8⟩ := h
  exact ⟨c, pv, hr.trans h1, h2, h3, h4, h5, h6, ⟨o, hg.trans h7⟩, fun j x hj => (World.cell?_of_block (a := ⟨g, j, none⟩) hg).trans (h8 j x hj)⟩
theorem Rd.set {r g : Nat} {l : List UInt8} {i : Nat} {w : World} (h : Rd r g l i w) (a : Addr) (v : Value) (hr : a.block ≠ r) (hg : a.block ≠ g) : Rd r g l i (w.setCell a v) :=
  h.keptRG (Below.heap_setCell _ _ _ _ (fun e => hr e.symm)) (Below.heap_setCell _ _ _ _ (fun e => hg e.symm))
/-- A reader over a string's bytes. -/
theorem newRd_any (w0 : World) (b : Nat) (hb : w0.heap.size = b) (s : ByteArray) (hs : s.size ≤ 4294967296) :
    Calls Tryd.prog 45 #[.slice (some ⟨b, 0, none⟩) s.size (grownCap w0 s.size 0 5)] (Lib.bytesWorld w0 5 s) fun e w' => ∃ r, e = .returned (.pointer (some ⟨r, 0, none⟩)) ∧ Rd r b s.data.toList 0 w' ∧ Below w0.heap.size w0 w' ∧ b < r := by
  subst hb
  refine (newReader_any _ _ _ _).mono fun e w' ⟨he, hw⟩ => ⟨_, he, ?_, ?_, ?_⟩
  · subst hw
    have hsz : s.size = s.data.toList.length := by rw [Array.length_toList]; rfl
    have hn := Lib.bytesWorld_at_new w0 5 s
    have hlt : w0.heap.size < (Lib.bytesWorld w0 5 s).heap.size := by rw [Lib.bytesWorld_size]; omega
    have e0 := Below.heap_alloc (Lib.bytesWorld w0 5 s) (.cells #[.slice (some ⟨w0.heap.size, 0, none⟩) s.size (grownCap w0 s.size 0 5), .int .i64 0, .int .i64 (-1)] 158) w0.heap.size hlt
    refine ⟨grownCap w0 s.size 0 5, -1, ?_, by omega, by rw [← hsz]; exact grownCap_ge _ _ _ _, ?_, Nat.zero_le _, by rw [← hsz]; exact hs, ⟨_, e0.trans hn⟩, ?_⟩
    · rw [← hsz]; exact heap_alloc_new _ _
    · have := grownCap_le_maxLen w0 s.size 0 5 (by unfold maxLen; omega)
      unfold maxLen at this; omega
    · intro j x hj
      have hjl : j < s.size := by rw [hsz]; exact (List.getElem?_eq_some_iff.1 hj).1
      have := Lib.bytesWorld_cell w0 5 s j hjl
      rw [List.getD_eq_getElem?_getD, hj] at this
      exact (World.cell?_of_block (a := ⟨w0.heap.size, j, none⟩) e0).trans this
  · subst hw
    exact (below_bytesWorld _ w0 _ s (Nat.le_refl _)).trans ((Below.refl _ _).alloc (by rw [Lib.bytesWorld_size]; omega) _)
  · rw [Lib.bytesWorld_size]; omega
theorem conv_bytes : ∀ (W : World) (s : ByteArray), (convert 9 29 (.string s)).run Tryd.prog W = .ok (.slice (some ⟨W.heap.size, 0, none⟩) s.size (grownCap W s.size 0 5)) (Lib.bytesWorld W 5 s) := fun W s => Lib.run_convert_string_bytes (P := Tryd.prog) W _ _ _ s Tryd.underlying9 Tryd.underlying29 Tryd.underlying5
theorem setCells_self (b : Nat) (T : TypeId) (fr : Nat × Nat) (cs : Array Value) : ∀ (vs : List Value) (o : Nat) (w : World), w.heap[b]? = some (.cells cs T fr) → (∀ j v, vs[j]? = some v → cs[o + j]? = some v) → (w.setCells b o vs).heap[b]? = some (.cells cs T fr)
  | [], _, _, h, _ => h
  | v :: r, o, w, h, hv => by
    have e : cs.setIfInBounds o v = cs := by
      apply Array.ext_getElem?
      intro i
      rw [Array.getElem?_setIfInBounds]
      split
      · rename_i hi
        subst hi
        split
        · have := hv 0 v rfl; rw [Nat.add_zero] at this; exact this.symm
        · rw [Array.getElem?_eq_none (by omega)]
      · rfl
    have h1 := Lib.heap_setCell_same (i := o) h v
    rw [e] at h1
    exact setCells_self b T fr cs r (o + 1) _ h1 (fun j u hj => by rw [show o + 1 + j = o + (j + 1) by omega]; exact hv (j + 1) u hj)
theorem dv_below {w w1 w2 W : World} {r q : Nat} {a : Addr} {v v2 : Value} (h1 : Below w.heap.size w w1) (hg : (w1.setCell ⟨w.heap.size, 0, none⟩ v).grownBy w2 (some r)) (hW : W = w2.setCell a v2) (hr : w.heap.size ≤ r) (ha : w.heap.size ≤ a.block := by exact Nat.le_refl _) : Below w.heap.size w (W.drewN q) := by
  have h2 : Below w.heap.size w (w1.setCell ⟨w.heap.size, 0, none⟩ v) := h1.setCell (p := ⟨w.heap.size, 0, none⟩) (Nat.le_refl _) v
  have h3 : Below w.heap.size w w2 := h2.trans (grown_below hg h2.size hr)
  subst hW
  have h4 := h3.setCell (p := a) ha v2
  exact ⟨h4.os, h4.tape, h4.output, h4.size, h4.block⟩
theorem leNat_lt : ∀ l : List UInt8, Lib.leNat l < 256 ^ l.length
  | [] => by simp [Lib.leNat]
  | c :: r => by
    have := leNat_lt r
    have hc := c.toNat_lt
    simp only [Lib.leNat, List.length_cons, Nat.pow_succ]
    omega
theorem beNat_lt (l : List UInt8) : Lib.beNat l < 256 ^ l.length := by
  rw [Lib.beNat_eq]
  have := leNat_lt l.reverse
  rwa [List.length_reverse] at this
theorem beNat_lt4 (l : List UInt8) (h : l.length ≤ 4) : Lib.beNat l < 4294967296 := by
  have h1 := beNat_lt l
  have h2 : 256 ^ l.length ≤ 256 ^ 4 := Nat.pow_le_pow_right (by decide) h
  have e : 256 ^ 4 = 4294967296 := by decide
  omega
theorem beNat_lt8 (l : List UInt8) (h : l.length ≤ 8) : Lib.beNat l < 18446744073709551616 := by
  have h1 := beNat_lt l
  have h2 : 256 ^ l.length ≤ 256 ^ 8 := Nat.pow_le_pow_right (by decide) h
  have e : 256 ^ 8 = 18446744073709551616 := by decide
  omega
abbrev zv (k : Int) : Array Value := #[.int .i64 k, .bool false, .int .i64 0, .int .u64 0, .int .u64 0, .string ⟨#[]⟩, .int .i64 0, .bool false, .bool false, .int .i64 0, .int .i64 0]
/-- What stands behind NewReader. -/
theorem dv_start {w w1 : World} {O : Obj} {B r b : Nat} {pe pl : Addr} (hB : B ≤ w.heap.size) (he : Env B pe pl w) (hw : Below (w.alloc O).heap.size (w.alloc O) w1) (hr : w.heap.size + 1 < r) :
    w1.heap[w.heap.size]? = some O ∧ Env B pe pl w1 ∧ Below w.heap.size w w1 ∧ B ≤ r :=
  have h0 : Below w.heap.size w w1 := ((Below.refl _ w).alloc (Nat.le_refl _) O).trans (hw.mono (by simp))
  ⟨(hw.block _ (by simp)).trans (heap_alloc_new w O), he.below (h0.mono hB), h0, by omega⟩
theorem decVar_ok (B : Nat) (pe pl : Addr) (r g : Nat) (l : List UInt8) (i v k : Nat) (w : World) (h : Rd r g l i w) (he : Env B pe pl w) (hBr : B ≤ r) (hR : vrd 0 0 (l.drop i) = some (v, k)) :
    Calls Tryd.prog 61 #[rdI r] w fun e w' => e = .returned (.tuple #[.int .u64 (v : Nat), .nilIface]) ∧ w.grownBy w' (some r) ∧ Rd r g l (i + k) w' :=
  (decVar_any B pe pl r g l i w h he hBr _ hR).mono fun e w' ⟨hg, hh⟩ => by
    rcases hh with ⟨v', k', hvk, he, h1⟩ | ⟨hn, _⟩
    · obtain ⟨rfl, rfl⟩ : v = v' ∧ k = k' := by simpa using hvk
      exact ⟨he, hg, h1⟩
    · exact absurd hn (by simp)
theorem decVar_bad (B : Nat) (pe pl : Addr) (r g : Nat) (l : List UInt8) (i : Nat) (w : World) (h : Rd r g l i w) (he : Env B pe pl w) (hBr : B ≤ r) (hR : vrd 0 0 (l.drop i) = none) :
    Calls Tryd.prog 61 #[rdI r] w fun e w' => ∃ ev, e = .returned (.tuple #[.int .u64 0, ev]) ∧ Fell r g l w w' ev :=
  (decVar_any B pe pl r g l i w h he hBr _ hR).mono fun e w' ⟨hg, hh⟩ => by
    rcases hh with ⟨v', k', hvk, _⟩ | ⟨_, ev, i', he, h1, h2⟩
    · exact absurd hvk (by simp)
    · exact ⟨ev, he, hg, h1, i', h2⟩
/-- A store of what is there already turns nothing. -/
theorem same_set {w : World} {b i : Nat} {cs : Array Value} {T : TypeId} {fr : Nat × Nat} {v : Value} (h : w.heap[b]? = some (.cells cs T fr)) (hv : cs[i]? = some v) (k : Nat) : (w.setCell ⟨b, i, none⟩ v).heap[k]? = w.heap[k]? := by
  by_cases hk : k = b
  · subst hk
    have := setCells_self k T fr cs [v] i w h (fun j u hj => by
      cases j with
      | zero => rw [Nat.add_zero, hv]; exact hj
      | succ j => simp at hj)
    exact this.trans h.symm
  · exact Below.heap_setCell _ _ _ _ (fun e => hk e)
end Go.Proofs.YtgdbeiadlgkedaaDoor
