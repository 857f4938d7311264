/- Contracts and plain laws, several texts in one. -/
import Derived.Test.YtgdbeiadlgkedaaDoorMRowBack1
import Derived.LaidEql
import Derived.Lib.ConvBytes
import Derived.Lib.SmallJoins
/- Contracts: values of a size that are read. -/
namespace Go.Proofs.YtgdbeiadlgkedaaDoor
open Go.RowKit
set_option linter.unusedVariables false
set_option linter.unusedSimpArgs false

abbrev errV (p : Addr) : Value := .iface 182 (.pointer (some p))
theorem laidAt_get {cur : Array Value} {bs : List UInt8} {j : Nat} {x : UInt8} (h : bs[j]? = some x) : (laidAt cur 0 bs)[j]? = some (.int .u8 x.toNat) := by
  have hl := (List.getElem?_eq_some_iff.1 h).1
  simp only [laidAt, List.take_zero, List.nil_append, List.getElem?_toArray]
  rw [List.getElem?_append_left (by rw [cellsOf_len]; exact hl), cellsOf, List.getElem?_map, h]; rfl
/-- What a reader's call leaves behind where it falls. -/
def Fell (r g : Nat) (l : List UInt8) (w w' : World) (ev : Value) : Prop := w.grownBy w' (some r) ∧ Err ev w' ∧ ∃ i', Rd r g l i' w'
theorem Err.kept {v : Value} {w w' : World} (h : Err v w) (hk : ∀ k, k < w.heap.size → w'.heap[k]? = w.heap[k]?) : Err v w' := by
  obtain ⟨a, s, e1, e2, e3⟩ := h
  exact ⟨a, s, e1, (World.cell?_of_block (a := a) (hk _ (World.block_lt_of_cell? w a e2))).trans e2, e3⟩
theorem fix_ok (r g : Nat) (l : List UInt8) (i d n : Nat) (cur : Array Value) (T : TypeId) (w : World) (h : Rd r g l i w) (hn : 0 < n) (hi : i + n ≤ l.length) (hd : w.heap[d]? = some (.cells cur T (0, 0))) (hdr : d ≠ r) (hdg : d ≠ g) (hs : cur.size = n) :
    Calls Tryd.prog 94 #[rdI r, .slice (some ⟨d, 0, none⟩) n n] w fun e w' => e = .returned .nilIface ∧ Rd r g l (i + n) w' ∧ At w' ⟨d, 0, none⟩ ((l.drop i).take n) ∧ Two r d w w' :=
  (readNB_some r g l i d n n cur T w h (by omega) hd hdr hdg hi (by omega) hn (Nat.le_refl _)).mono fun e w' ⟨a1, a2, a3, a4⟩ => ⟨a1, a2, At.mk fun j x hj => (blk_cell a3 j).trans (laidAt_get hj), a4⟩
theorem fix_bad (B : Nat) (pe pl : Addr) (r g : Nat) (l : List UInt8) (i d n : Nat) (cur : Array Value) (T : TypeId) (w : World) (h : Rd r g l i w) (he : Env B pe pl w) (hBr : B ≤ r) (hBd : B ≤ d) (hn : 0 < n) (hn2 : n ≤ 4294967296) (hi : ¬ i + n ≤ l.length) (hd : w.heap[d]? = some (.cells cur T (0, 0))) (hdr : d ≠ r) (hdg : d ≠ g) (hs : cur.size = n) :
    Calls Tryd.prog 94 #[rdI r, .slice (some ⟨d, 0, none⟩) n n] w fun e w' => e = .returned (errV pe) ∧ Rd r g l l.length w' ∧ Two r d w w' := by
  have hle := h.le
  by_cases hi2 : i < l.length
  · exact readNB_few r g l i d n n cur T _ _ w h hi2 hd hdr hdg (by omega) (by omega) (Nat.le_refl _) he.eof (by have := he.b0; omega) (by have := he.b0; omega) hn2
  · obtain rfl : i = l.length := by omega
    exact (readNB_eof r g l d n n _ _ w h he.eof (Nat.le_refl _) hn).mono fun e w' ⟨a1, q, a2⟩ => ⟨a1, by rw [a2]; exact h.drewN q, by rw [a2]; exact (Two.refl r d w).drewN q⟩
theorem eight (l : List UInt8) (h : 8 ≤ l.length) : ∃ b0 b1 b2 b3 b4 b5 b6 b7, l.take 8 = [b0, b1, b2, b3, b4, b5, b6, b7] := by
  match l, h with
  | b0 :: b1 :: b2 :: b3 :: b4 :: b5 :: b6 :: b7 :: r, _ => exact ⟨b0, b1, b2, b3, b4, b5, b6, b7, rfl⟩
theorem four (l : List UInt8) (h : 4 ≤ l.length) : ∃ b0 b1 b2 b3, l.take 4 = [b0, b1, b2, b3] := by
  match l, h with
  | b0 :: b1 :: b2 :: b3 :: r, _ => exact ⟨b0, b1, b2, b3, rfl⟩
theorem At.get {w : World} {d : Nat} {l : List UInt8} (h : At w ⟨d, 0, none⟩ l) {j : Nat} {x : UInt8} (hj : l[j]? = some x) : w.cell? ⟨d, 0 + j, none⟩ = some (.int .u8 x.toNat) := by
  have := h j x hj
  rwa [Lib.addr_add] at this
theorem get64_any (d : Nat) (l : List UInt8) (w : World) (hl : 8 ≤ l.length) (h : At w ⟨d, 0, none⟩ (l.take 8)) :
    Calls Tryd.prog 96 #[.agg #[], .slice (some ⟨d, 0, none⟩) 8 8] w fun e w' => e = .returned (.int .u64 (Lib.beNat (l.take 8) : Nat)) ∧ Below w.heap.size w w' := by
  obtain ⟨b0, b1, b2, b3, b4, b5, b6, b7, e⟩ := eight l hl
  rw [e] at h ⊢
  exact Tryd.binary_BE_Uint64 d 0 8 8 b0 b1 b2 b3 b4 b5 b6 b7 w (by decide) (h.get (j := 0) rfl) (h.get (j := 1) rfl) (h.get (j := 2) rfl) (h.get (j := 3) rfl) (h.get (j := 4) rfl) (h.get (j := 5) rfl) (h.get (j := 6) rfl) (h.get (j := 7) rfl)
theorem get32_any (d : Nat) (l : List UInt8) (w : World) (hl : 4 ≤ l.length) (h : At w ⟨d, 0, none⟩ (l.take 4)) :
    Calls Tryd.prog 97 #[.agg #[], .slice (some ⟨d, 0, none⟩) 4 4] w fun e w' => e = .returned (.int .u32 (Lib.beNat (l.take 4) : Nat)) ∧ Below w.heap.size w w' := by
  obtain ⟨b0, b1, b2, b3, e⟩ := four l hl
  rw [e] at h ⊢
  exact Tryd.binary_BE_Uint32 d 0 4 4 b0 b1 b2 b3 w (by decide) (h.get (j := 0) rfl) (h.get (j := 1) rfl) (h.get (j := 2) rfl) (h.get (j := 3) rfl)
theorem grown_below_trans {r : Nat} {a b c : World} (h : a.grownBy b (some r)) (k : Below b.heap.size b c) : a.grownBy c (some r) := Lib.grownBy_below h k
theorem Rd.ge {r g : Nat} {l : List UInt8} {i : Nat} {w : World} (h : Rd r g l i w) (o : Obj) : w.heap.size ≠ r ∧ w.heap.size ≠ g := ⟨by have := h.lt; omega, by have := h.ltg; omega⟩
set_option maxHeartbeats 2000000 in
set_option maxRecDepth 100000 in
theorem decU64_ok (r g : Nat) (l : List UInt8) (i : Nat) (w : World) (h : Rd r g l i w) (hi : i + 8 ≤ l.length) :
    Calls Tryd.prog 59 #[rdI r] w fun e w' => e = .returned (.tuple #[.int .u64 (Lib.beNat ((l.drop i).take 8) : Nat), .nilIface]) ∧ w.grownBy w' (some r) ∧ Rd r g l (i + 8) w' := by
  have hne := h.ge (.cells #[] 0)
  have hC := fix_ok r g l i w.heap.size 8 _ _ _ (h.alloc (.cells #[.int .u8 0, .int .u8 0, .int .u8 0, .int .u8 0, .int .u8 0, .int .u8 0, .int .u8 0, .int .u8 0] 164)) (by decide) hi (heap_alloc_new w _) hne.1 hne.2 rfl
  have HC := Lib.hid hC
  have HI := Lib.hid (show 8 ≤ (l.drop i).length by rw [List.length_drop]; omega)
  clear hC h hne hi
  go_enter Tryd.func59, Tryd.ntmps59
  go_wp2_with (go_at_call 94; go_loud (refine HC.out.mono ?_; rintro e_ w1 ⟨rfl, h1, h2, h3⟩; have H1 := Lib.hid h1; have H2 := Lib.hid h2; have HG := Lib.hid (Two.grown (grown_alloc (grown_refl (r := r) w) _) h3 (Nat.le_refl _)); clear h1 h2 h3))
  go_region_with (go_at_call 96; refine (get64_any w.heap.size (l.drop i) _ HI.out ?ha).mono ?_; (case ha => exact H2.out); rintro e_ w2 ⟨rfl, hb⟩; have HB := Lib.hid hb; clear hb)
  all_goals
    go_wp2
    go_ret2
    exact ⟨rfl, Lib.grownBy_below (grown_drewN HG.out 1) HB.out, (H1.out.drewN 1).below HB.out⟩
set_option maxHeartbeats 2000000 in
set_option maxRecDepth 100000 in
theorem decU64_bad (B : Nat) (pe pl : Addr) (r g : Nat) (l : List UInt8) (i : Nat) (w : World) (h : Rd r g l i w) (he : Env B pe pl w) (hBr : B ≤ r) (hi : ¬ i + 8 ≤ l.length) :
    Calls Tryd.prog 59 #[rdI r] w fun e w' => ∃ ev, e = .returned (.tuple #[.int .u64 0, ev]) ∧ Fell r g l w w' ev := by
  have hne := h.ge (.cells #[] 0)
  have hrw := h.lt
  have hC := fix_bad B pe pl r g l i w.heap.size 8 _ _ _ (h.alloc (.cells #[.int .u8 0, .int .u8 0, .int .u8 0, .int .u8 0, .int .u8 0, .int .u8 0, .int .u8 0, .int .u8 0] 164)) (he.below ((Below.refl B w).alloc (by omega) _)) hBr (by omega) (by decide) (by decide) hi (heap_alloc_new w _) hne.1 hne.2 rfl
  have HC := Lib.hid hC
  have HE := Lib.hid he
  have HR := Lib.hid (And.intro hBr hrw)
  clear hC h hne hi he hBr hrw
  go_enter Tryd.func59, Tryd.ntmps59
  go_wp2_with (go_at_call 94; go_loud (refine HC.out.mono ?_; rintro e_ w1 ⟨rfl, h1, h3⟩; have H1 := Lib.hid h1; have HG := Lib.hid (Two.grown (grown_alloc (grown_refl (r := r) w) _) h3 (Nat.le_refl _)); clear h1 h3))
  go_ret2
  exact ⟨errV pe, rfl, HG.out, (HE.out.below (grown_below HG.out (by have := HR.out; omega) HR.out.1)).errE, _, H1.out⟩
set_option maxHeartbeats 2000000 in
set_option maxRecDepth 100000 in
theorem decU32_ok (r g : Nat) (l : List UInt8) (i : Nat) (w : World) (h : Rd r g l i w) (hi : i + 4 ≤ l.length) :
    Calls Tryd.prog 58 #[rdI r] w fun e w' => e = .returned (.tuple #[.int .u32 (Lib.beNat ((l.drop i).take 4) : Nat), .nilIface]) ∧ w.grownBy w' (some r) ∧ Rd r g l (i + 4) w' := by
  have hne := h.ge (.cells #[] 0)
  have hC := fix_ok r g l i w.heap.size 4 _ _ _ (h.alloc (.cells #[.int .u8 0, .int .u8 0, .int .u8 0, .int .u8 0] 168)) (by decide) hi (heap_alloc_new w _) hne.1 hne.2 rfl
  have HC := Lib.hid hC
  have HI := Lib.hid (show 4 ≤ (l.drop i).length by rw [List.length_drop]; omega)
  clear hC h hne hi
  go_enter Tryd.func58, Tryd.ntmps58
  go_wp2_with (go_at_call 94; go_loud (refine HC.out.mono ?_; rintro e_ w1 ⟨rfl, h1, h2, h3⟩; have H1 := Lib.hid h1; have H2 := Lib.hid h2; have HG := Lib.hid (Two.grown (grown_alloc (grown_refl (r := r) w) _) h3 (Nat.le_refl _)); clear h1 h2 h3))
  go_region_with (go_at_call 97; refine (get32_any w.heap.size (l.drop i) _ HI.out ?ha).mono ?_; (case ha => exact H2.out); rintro e_ w2 ⟨rfl, hb⟩; have HB := Lib.hid hb; clear hb)
  all_goals
    go_wp2
    go_ret2
    exact ⟨rfl, Lib.grownBy_below (grown_drewN HG.out 1) HB.out, (H1.out.drewN 1).below HB.out⟩
set_option maxHeartbeats 2000000 in
set_option maxRecDepth 100000 in
theorem decU32_bad (B : Nat) (pe pl : Addr) (r g : Nat) (l : List UInt8) (i : Nat) (w : World) (h : Rd r g l i w) (he : Env B pe pl w) (hBr : B ≤ r) (hi : ¬ i + 4 ≤ l.length) :
    Calls Tryd.prog 58 #[rdI r] w fun e w' => ∃ ev, e = .returned (.tuple #[.int .u32 0, ev]) ∧ Fell r g l w w' ev := by
  have hne := h.ge (.cells #[] 0)
  have hrw := h.lt
  have hC := fix_bad B pe pl r g l i w.heap.size 4 _ _ _ (h.alloc (.cells #[.int .u8 0, .int .u8 0, .int .u8 0, .int .u8 0] 168)) (he.below ((Below.refl B w).alloc (by omega) _)) hBr (by omega) (by decide) (by decide) hi (heap_alloc_new w _) hne.1 hne.2 rfl
  have HC := Lib.hid hC
  have HE := Lib.hid he
  have HR := Lib.hid (And.intro hBr hrw)
  clear hC h hne hi he hBr hrw
  go_enter Tryd.func58, Tryd.ntmps58
  go_wp2_with (go_at_call 94; go_loud (refine HC.out.mono ?_; rintro e_ w1 ⟨rfl, h1, h3⟩; have H1 := Lib.hid h1; have HG := Lib.hid (Two.grown (grown_alloc (grown_refl (r := r) w) _) h3 (Nat.le_refl _)); clear h1 h3))
  go_ret2
  exact ⟨errV pe, rfl, HG.out, (HE.out.below (grown_below HG.out (by have := HR.out; omega) HR.out.1)).errE, _, H1.out⟩
set_option maxHeartbeats 2000000 in
set_option maxRecDepth 100000 in
theorem decF64_ok (r g : Nat) (l : List UInt8) (i : Nat) (w : World) (h : Rd r g l i w) (hi : i + 8 ≤ l.length) :
    Calls Tryd.prog 49 #[rdI r] w fun e w' => e = .returned (.tuple #[.float .f64 (Lib.beNat ((l.drop i).take 8)), .nilIface]) ∧ w.grownBy w' (some r) ∧ Rd r g l (i + 8) w' := by
  have hne := h.ge (.cells #[] 0)
  have hC := fix_ok r g l i w.heap.size 8 _ _ _ (h.alloc (.cells #[.int .u8 0, .int .u8 0, .int .u8 0, .int .u8 0, .int .u8 0, .int .u8 0, .int .u8 0, .int .u8 0] 164)) (by decide) hi (heap_alloc_new w _) hne.1 hne.2 rfl
  have HC := Lib.hid hC
  have HI := Lib.hid (show 8 ≤ (l.drop i).length by rw [List.length_drop]; omega)
  have fb : ∀ W, (callFunc 72 #[.int .u64 (Lib.beNat ((l.drop i).take 8) : Nat)]).run Tryd.prog W = .ok (.value (.float .f64 (Lib.beNat ((l.drop i).take 8)))) W := fun _ => by kernel_rfl
  clear hC h hne hi
  go_enter Tryd.func49, Tryd.ntmps49
  go_wp2_with (go_at_call 94; go_loud (refine HC.out.mono ?_; rintro e_ w1 ⟨rfl, h1, h2, h3⟩; have H1 := Lib.hid h1; have H2 := Lib.hid h2; have HG := Lib.hid (Two.grown (grown_alloc (grown_refl (r := r) w) _) h3 (Nat.le_refl _)); clear h1 h2 h3))
  go_region_with (go_at_call 96; refine (get64_any w.heap.size (l.drop i) _ HI.out ?ha).mono ?_; (case ha => exact H2.out); rintro e_ w2 ⟨rfl, hb⟩; have HB := Lib.hid hb; clear hb)
  all_goals
    go_wp2
    go_ret2
    exact ⟨rfl, Lib.grownBy_below (grown_drewN HG.out 1) HB.out, (H1.out.drewN 1).below HB.out⟩
set_option maxHeartbeats 2000000 in
set_option maxRecDepth 100000 in
theorem decF64_bad (B : Nat) (pe pl : Addr) (r g : Nat) (l : List UInt8) (i : Nat) (w : World) (h : Rd r g l i w) (he : Env B pe pl w) (hBr : B ≤ r) (hi : ¬ i + 8 ≤ l.length) :
    Calls Tryd.prog 49 #[rdI r] w fun e w' => ∃ ev, e = .returned (.tuple #[.float .f64 0, ev]) ∧ Fell r g l w w' ev := by
  have hne := h.ge (.cells #[] 0)
  have hrw := h.lt
  have hC := fix_bad B pe pl r g l i w.heap.size 8 _ _ _ (h.alloc (.cells #[.int .u8 0, .int .u8 0, .int .u8 0, .int .u8 0, .int .u8 0, .int .u8 0, .int .u8 0, .int .u8 0] 164)) (he.below ((Below.refl B w).alloc (by omega) _)) hBr (by omega) (by decide) (by decide) hi (heap_alloc_new w _) hne.1 hne.2 rfl
  have HC := Lib.hid hC
  have HE := Lib.hid he
  have HR := Lib.hid (And.intro hBr hrw)
  clear hC h hne hi he hBr hrw
  go_enter Tryd.func49, Tryd.ntmps49
  go_wp2_with (go_at_call 94; go_loud (refine HC.out.mono ?_; rintro e_ w1 ⟨rfl, h1, h3⟩; have H1 := Lib.hid h1; have HG := Lib.hid (Two.grown (grown_alloc (grown_refl (r := r) w) _) h3 (Nat.le_refl _)); clear h1 h3))
  go_ret2
  exact ⟨errV pe, rfl, HG.out, (HE.out.below (grown_below HG.out (by have := HR.out; omega) HR.out.1)).errE, _, H1.out⟩
set_option maxHeartbeats 2000000 in
set_option maxRecDepth 100000 in
theorem decF32_ok (r g : Nat) (l : List UInt8) (i : Nat) (w : World) (h : Rd r g l i w) (hi : i + 4 ≤ l.length) :
    Calls Tryd.prog 55 #[rdI r] w fun e w' => e = .returned (.tuple #[.float .f32 (Lib.beNat ((l.drop i).take 4)), .nilIface]) ∧ w.grownBy w' (some r) ∧ Rd r g l (i + 4) w' := by
  have hne := h.ge (.cells #[] 0)
  have hC := fix_ok r g l i w.heap.size 4 _ _ _ (h.alloc (.cells #[.int .u8 0, .int .u8 0, .int .u8 0, .int .u8 0] 168)) (by decide) hi (heap_alloc_new w _) hne.1 hne.2 rfl
  have HC := Lib.hid hC
  have HI := Lib.hid (show 4 ≤ (l.drop i).length by rw [List.length_drop]; omega)
  have fb : ∀ W, (callFunc 78 #[.int .u32 (Lib.beNat ((l.drop i).take 4) : Nat)]).run Tryd.prog W = .ok (.value (.float .f32 (Lib.beNat ((l.drop i).take 4)))) W := fun _ => by kernel_rfl
  clear hC h hne hi
  go_enter Tryd.func55, Tryd.ntmps55
  go_wp2_with (go_at_call 94; go_loud (refine HC.out.mono ?_; rintro e_ w1 ⟨rfl, h1, h2, h3⟩; have H1 := Lib.hid h1; have H2 := Lib.hid h2; have HG := Lib.hid (Two.grown (grown_alloc (grown_refl (r := r) w) _) h3 (Nat.le_refl _)); clear h1 h2 h3))
  go_region_with (go_at_call 97; refine (get32_any w.heap.size (l.drop i) _ HI.out ?ha).mono ?_; (case ha => exact H2.out); rintro e_ w2 ⟨rfl, hb⟩; have HB := Lib.hid hb; clear hb)
  all_goals
    go_wp2
    go_ret2
    exact ⟨rfl, Lib.grownBy_below (grown_drewN HG.out 1) HB.out, (H1.out.drewN 1).below HB.out⟩
set_option maxHeartbeats 2000000 in
set_option maxRecDepth 100000 in
theorem decF32_bad (B : Nat) (pe pl : Addr) (r g : Nat) (l : List UInt8) (i : Nat) (w : World) (h : Rd r g l i w) (he : Env B pe pl w) (hBr : B ≤ r) (hi : ¬ i + 4 ≤ l.length) :
    Calls Tryd.prog 55 #[rdI r] w fun e w' => ∃ ev, e = .returned (.tuple #[.float .f32 0, ev]) ∧ Fell r g l w w' ev := by
  have hne := h.ge (.cells #[] 0)
  have hrw := h.lt
  have hC := fix_bad B pe pl r g l i w.heap.size 4 _ _ _ (h.alloc (.cells #[.int .u8 0, .int .u8 0, .int .u8 0, .int .u8 0] 168)) (he.below ((Below.refl B w).alloc (by omega) _)) hBr (by omega) (by decide) (by decide) hi (heap_alloc_new w _) hne.1 hne.2 rfl
  have HC := Lib.hid hC
  have HE := Lib.hid he
  have HR := Lib.hid (And.intro hBr hrw)
  clear hC h hne hi he hBr hrw
  go_enter Tryd.func55, Tryd.ntmps55
  go_wp2_with (go_at_call 94; go_loud (refine HC.out.mono ?_; rintro e_ w1 ⟨rfl, h1, h3⟩; have H1 := Lib.hid h1; have HG := Lib.hid (Two.grown (grown_alloc (grown_refl (r := r) w) _) h3 (Nat.le_refl _)); clear h1 h3))
  go_ret2
  exact ⟨errV pe, rfl, HG.out, (HE.out.below (grown_below HG.out (by have := HR.out; omega) HR.out.1)).errE, _, H1.out⟩
theorem decI32_ok (r g : Nat) (l : List UInt8) (i : Nat) (w : World) (h : Rd r g l i w) (hi : i + 4 ≤ l.length) :
    Calls Tryd.prog 52 #[rdI r] w fun e w' => e = .returned (.tuple #[.int .i32 (wrap32 (Lib.beNat ((l.drop i).take 4) : Nat)), .nilIface]) ∧ w.grownBy w' (some r) ∧ Rd r g l (i + 4) w' := by
  have HC := Lib.hid (decU32_ok r g l i w h hi)
  clear h hi
  go_enter Tryd.func52, Tryd.ntmps52
  go_wp2_with (go_at_call 58; go_loud (refine HC.out.mono ?_; rintro e_ w1 ⟨rfl, h1⟩; have H1 := Lib.hid h1; clear h1))
  go_ret2
  exact ⟨rfl, H1.out⟩
theorem decI32_bad (B : Nat) (pe pl : Addr) (r g : Nat) (l : List UInt8) (i : Nat) (w : World) (h : Rd r g l i w) (he : Env B pe pl w) (hBr : B ≤ r) (hi : ¬ i + 4 ≤ l.length) :
    Calls Tryd.prog 52 #[rdI r] w fun e w' => ∃ ev, e = .returned (.tuple #[.int .i32 0, ev]) ∧ Fell r g l w w' ev := by
  have HC := Lib.hid (decU32_bad B pe pl r g l i w h he hBr hi)
  clear h hi he hBr
  go_enter Tryd.func52, Tryd.ntmps52
  go_wp2_with (go_at_call 58; go_loud (refine HC.out.mono ?_; rintro e_ w1 ⟨ev, rfl, h1⟩; obtain ⟨a, s, rfl, h2⟩ : ∃ a s, ev = errV a ∧ Hid (w1.cell? a = some (.string s) ∧ s.data.toList ≠ []) := (by obtain ⟨a, s, e1, e2, e3⟩ := h1.2.1; exact ⟨a, s, e1, Lib.hid ⟨e2, e3⟩⟩); have H1 := Lib.hid h1; clear h1))
  go_ret2
  exact ⟨errV a, rfl, H1.out⟩
theorem decTime_ok (r g : Nat) (l : List UInt8) (i : Nat) (w : World) (h : Rd r g l i w) (hi : i + 8 ≤ l.length) :
    Calls Tryd.prog 51 #[rdI r] w fun e w' => e = .returned (.tuple #[.int .i64 (wrap64 (wrap64 (Lib.beNat ((l.drop i).take 8) : Nat) + -9223372036854775808)), .nilIface]) ∧ w.grownBy w' (some r) ∧ Rd r g l (i + 8) w' := by
  have HC := Lib.hid (decU64_ok r g l i w h hi)
  clear h hi
  go_enter Tryd.func51, Tryd.ntmps51
  go_wp2_with (go_at_call 59; go_loud (refine HC.out.mono ?_; rintro e_ w1 ⟨rfl, h1⟩; have H1 := Lib.hid h1; clear h1))
  go_ret2
  exact ⟨rfl, H1.out⟩
theorem decTime_bad (B : Nat) (pe pl : Addr) (r g : Nat) (l : List UInt8) (i : Nat) (w : World) (h : Rd r g l i w) (he : Env B pe pl w) (hBr : B ≤ r) (hi : ¬ i + 8 ≤ l.length) :
    Calls Tryd.prog 51 #[rdI r] w fun e w' => ∃ ev, e = .returned (.tuple #[.int .i64 0, ev]) ∧ Fell r g l w w' ev := by
  have HC := Lib.hid (decU64_bad B pe pl r g l i w h he hBr hi)
  clear h hi he hBr
  go_enter Tryd.func51, Tryd.ntmps51
  go_wp2_with (go_at_call 59; go_loud (refine HC.out.mono ?_; rintro e_ w1 ⟨ev, rfl, h1⟩; obtain ⟨a, s, rfl, h2⟩ : ∃ a s, ev = errV a ∧ Hid (w1.cell? a = some (.string s) ∧ s.data.toList ≠ []) := (by obtain ⟨a, s, e1, e2, e3⟩ := h1.2.1; exact ⟨a, s, e1, Lib.hid ⟨e2, e3⟩⟩); have H1 := Lib.hid h1; clear h1))
  go_ret2
  exact ⟨errV a, rfl, H1.out⟩
/-- DecodeVarInt. -/
theorem decVarI_ok (B : Nat) (pe pl : Addr) (r g : Nat) (l : List UInt8) (i v k : Nat) (w : World) (h : Rd r g l i w) (he : Env B pe pl w) (hBr : B ≤ r) (hR : vrd 0 0 (l.drop i) = some (v, k)) :
    Calls Tryd.prog 60 #[rdI r] w fun e w' => e = .returned (.tuple #[.int .i64 (wrap64 (v : Nat)), .nilIface]) ∧ w.grownBy w' (some r) ∧ Rd r g l (i + k) w' := by
  have HC := Lib.hid (decVar_any B pe pl r g l i w h he hBr _ hR)
  clear h hR he hBr
  go_enter Tryd.func60, Tryd.ntmps60
  go_wp2_with (go_at_call 61; go_loud (refine HC.out.mono ?_; rintro e_ w1 ⟨hg, ⟨v', k', hvk, rfl, h1⟩ | ⟨hn, _⟩⟩; rotate_left; exact absurd hn (by simp); obtain ⟨rfl, rfl⟩ : v = v' ∧ k = k' := (by simpa using hvk); have H1 := Lib.hid (And.intro hg h1); clear h1 hg hvk))
  go_ret2
  exact ⟨rfl, H1.out⟩
theorem decVarI_bad (B : Nat) (pe pl : Addr) (r g : Nat) (l : List UInt8) (i : Nat) (w : World) (h : Rd r g l i w) (he : Env B pe pl w) (hBr : B ≤ r) (hR : vrd 0 0 (l.drop i) = none) :
    Calls Tryd.prog 60 #[rdI r] w fun e w' => ∃ ev, e = .returned (.tuple #[.int .i64 0, ev]) ∧ Fell r g l w w' ev := by
  have HC := Lib.hid (decVar_any B pe pl r g l i w h he hBr _ hR)
  clear h hR he hBr
  go_enter Tryd.func60, Tryd.ntmps60
  go_wp2_with (go_at_call 61; go_loud (refine HC.out.mono ?_; rintro e_ w1 ⟨hg, ⟨v', k', hvk, rfl, h1⟩ | ⟨_, ev, i', rfl, h1, h2⟩⟩; exact absurd hvk (by simp); obtain ⟨a, s, rfl, h3⟩ : ∃ a s, ev = errV a ∧ Hid (w1.cell? a = some (.string s) ∧ s.data.toList ≠ []) := (by obtain ⟨a, s, e1, e2, e3⟩ := h1; exact ⟨a, s, e1, Lib.hid ⟨e2, e3⟩⟩); have H1 := Lib.hid (And.intro hg (And.intro h1 h2)); clear h1 h2 hg))
  go_ret2
  exact ⟨errV a, rfl, H1.out.1, H1.out.2.1, i', H1.out.2.2⟩
end Go.Proofs.YtgdbeiadlgkedaaDoor

/- Contracts: EncodeValue of numbers. -/
namespace Go.Proofs.YtgdbeiadlgkedaaDoor
open Go.RowKit
set_option linter.unusedVariables false
set_option linter.unusedSimpArgs false

theorem word_nil (w : World) : Calls Tryd.prog 63 #[.nilIface] w fun e w' => e = .returned (.string ⟨#[]⟩) ∧ w = w' := by
  go_enter Tryd.func63, Tryd.ntmps63
  go_wp2
  go_ret
  exact ⟨rfl, rfl⟩
theorem errText_any (a : Addr) (s : ByteArray) (w : World) (h : w.cell? a = some (.string s)) : Calls Tryd.prog 141 #[.pointer (some a)] w fun e w' => e = .returned (.string s) ∧ w = w' := by
  go_enter Tryd.func141, Tryd.ntmps141
  go_wp2
  go_ret
  exact ⟨rfl, rfl⟩
theorem word_err (a : Addr) (s : ByteArray) (w : World) (h : w.cell? a = some (.string s)) : Calls Tryd.prog 63 #[errV a] w fun e w' => e = .returned (.string s) ∧ w = w' := by
  have HC := Lib.hid (errText_any a s w h)
  clear h
  go_enter Tryd.func63, Tryd.ntmps63
  go_wp2_with (go_at_call 141; go_loud (refine HC.out.mono ?_; rintro e_ w1 ⟨rfl, rfl⟩))
  go_ret
  exact ⟨rfl, rfl⟩
theorem fresh_Bf (w : World) : Bf w.heap.size w.heap.size [] (w.alloc (.cells #[.slice none 0 0, .int .i64 0, .int .i8 0] 129)) := Lib.fresh_isBuffer _ _ w
theorem string_any (B b : Nat) (l : List UInt8) (w : World) (h : Bf B b l w) : Calls Tryd.prog 84 #[.pointer (some ⟨b, 0, none⟩)] w fun e w' => e = .returned (.string ⟨l.toArray⟩) ∧ ∃ n, w' = w.drewN n := Tryd.Buffer_String B b l w h
theorem enc_below {w w2 w3 : World} {o o2 : Obj} {n : Nat} (h : Below (w.heap.size + 1) ((w.alloc o).alloc o2) w2) (h3 : w3 = w2.drewN n) : Below w.heap.size w w3 := by
  subst h3
  have h0 : Below w.heap.size w ((w.alloc o).alloc o2) := ((Below.refl _ w).alloc (Nat.le_refl _) _).alloc (by simp) _
  have h1 := h0.trans (h.mono (by simp))
  exact ⟨h1.os, h1.tape, h1.output, h1.size, h1.block⟩
set_option maxHeartbeats 4000000 in
set_option maxRecDepth 100000 in
theorem encVal_11 (fl : Bool) (n u b : Int) (t : ByteArray) (pt : Int) (pf pl : Bool) (pi pn : Int) (w : World) :
    Calls Tryd.prog 27 #[.agg #[.int .i64 11, .bool fl, .int .i64 n, .int .u64 u, .int .u64 b, .string t, .int .i64 pt, .bool pf, .bool pl, .int .i64 pi, .int .i64 pn]] w fun e w' => e = .returned (.tuple #[.string ⟨(Lib.uvarint (u64of n)).toArray⟩, .string ⟨#[]⟩]) ∧ Below w.heap.size w w' := by
  have hF : Bf (w.heap.size + 1) (w.heap.size + 1) [] ((w.alloc (.cells #[.int .i64 11, .bool fl, .int .i64 n, .int .u64 u, .int .u64 b, .string t, .int .i64 pt, .bool pf, .bool pl, .int .i64 pi, .int .i64 pn] 26)).alloc (.cells #[.slice none 0 0, .int .i64 0, .int .i8 0] 129)) := by
    have := fresh_Bf (w.alloc (.cells #[.int .i64 11, .bool fl, .int .i64 n, .int .u64 u, .int .u64 b, .string t, .int .i64 pt, .bool pf, .bool pl, .int .i64 pi, .int .i64 pn] 26)); rwa [World.size_alloc] at this
  have HC := Lib.hid (encVarI_any _ _ n [] _ hF (by decide))
  clear hF
  go_enter Tryd.func27, Tryd.ntmps27
  go_wp2_with (first
    | (go_at_call 82; go_loud (refine HC.out.mono ?_; rintro e_ w1 ⟨rfl, h1, h2, _⟩; have H1 := Lib.hid h1; have H2 := Lib.hid h2; clear h1 h2))
    | (go_at_call 84; refine (string_any _ _ _ _ H1.out).mono ?_; rintro e_ w2 ⟨rfl, q2, hq⟩; have HQ := Lib.hid (enc_below H2.out hq); clear hq)
    | (go_at_call 63; refine (word_nil _).mono ?_; rintro e_ w3 ⟨rfl, rfl⟩))
  all_goals (go_ret2; exact ⟨rfl, HQ.out⟩)
set_option maxHeartbeats 4000000 in
set_option maxRecDepth 100000 in
theorem encVal_12 (fl : Bool) (n u b : Int) (t : ByteArray) (pt : Int) (pf pl : Bool) (pi pn : Int) (w : World) (hu0 : 0 ≤ u) (hu : u < 18446744073709551616) :
    Calls Tryd.prog 27 #[.agg #[.int .i64 12, .bool fl, .int .i64 n, .int .u64 u, .int .u64 b, .string t, .int .i64 pt, .bool pf, .bool pl, .int .i64 pi, .int .i64 pn]] w fun e w' => e = .returned (.tuple #[.string ⟨(Lib.uvarint u.toNat).toArray⟩, .string ⟨#[]⟩]) ∧ Below w.heap.size w w' := by
  have hF : Bf (w.heap.size + 1) (w.heap.size + 1) [] ((w.alloc (.cells #[.int .i64 12, .bool fl, .int .i64 n, .int .u64 u, .int .u64 b, .string t, .int .i64 pt, .bool pf, .bool pl, .int .i64 pi, .int .i64 pn] 26)).alloc (.cells #[.slice none 0 0, .int .i64 0, .int .i8 0] 129)) := by
    have := fresh_Bf (w.alloc (.cells #[.int .i64 12, .bool fl, .int .i64 n, .int .u64 u, .int .u64 b, .string t, .int .i64 pt, .bool pf, .bool pl, .int .i64 pi, .int .i64 pn] 26)); rwa [World.size_alloc] at this
  have HC := Lib.hid ((show _ from by have := encVar_any _ _ u.toNat [] _ hF (by omega) (by decide); rwa [show (u.toNat : Int) = u from by omega] at this))
  clear hu0 hu
  clear hF
  go_enter Tryd.func27, Tryd.ntmps27
  go_wp2_with (first
    | (go_at_call 83; go_loud (refine HC.out.mono ?_; rintro e_ w1 ⟨rfl, h1, h2, _⟩; have H1 := Lib.hid h1; have H2 := Lib.hid h2; clear h1 h2))
    | (go_at_call 84; refine (string_any _ _ _ _ H1.out).mono ?_; rintro e_ w2 ⟨rfl, q2, hq⟩; have HQ := Lib.hid (enc_below H2.out hq); clear hq)
    | (go_at_call 63; refine (word_nil _).mono ?_; rintro e_ w3 ⟨rfl, rfl⟩))
  all_goals (go_ret2; exact ⟨rfl, HQ.out⟩)
set_option maxHeartbeats 4000000 in
set_option maxRecDepth 100000 in
theorem encVal_10 (fl : Bool) (n u b : Int) (t : ByteArray) (pt : Int) (pf pl : Bool) (pi pn : Int) (w : World) (hu0 : 0 ≤ u) (hu : u < 18446744073709551616) :
    Calls Tryd.prog 27 #[.agg #[.int .i64 10, .bool fl, .int .i64 n, .int .u64 u, .int .u64 b, .string t, .int .i64 pt, .bool pf, .bool pl, .int .i64 pi, .int .i64 pn]] w fun e w' => e = .returned (.tuple #[.string ⟨(Lib.beBytes 8 u.toNat).toArray⟩, .string ⟨#[]⟩]) ∧ Below w.heap.size w w' := by
  have hF : Bf (w.heap.size + 1) (w.heap.size + 1) [] ((w.alloc (.cells #[.int .i64 10, .bool fl, .int .i64 n, .int .u64 u, .int .u64 b, .string t, .int .i64 pt, .bool pf, .bool pl, .int .i64 pi, .int .i64 pn] 26)).alloc (.cells #[.slice none 0 0, .int .i64 0, .int .i8 0] 129)) := by
    have := fresh_Bf (w.alloc (.cells #[.int .i64 10, .bool fl, .int .i64 n, .int .u64 u, .int .u64 b, .string t, .int .i64 pt, .bool pf, .bool pl, .int .i64 pi, .int .i64 pn] 26)); rwa [World.size_alloc] at this
  have HC := Lib.hid ((show _ from by have := encU64_any _ _ u.toNat [] _ hF (by omega) (by decide); rwa [show (u.toNat : Int) = u from by omega] at this))
  clear hu0 hu
  clear hF
  go_enter Tryd.func27, Tryd.ntmps27
  go_wp2_with (first
    | (go_at_call 81; go_loud (refine HC.out.mono ?_; rintro e_ w1 ⟨rfl, h1, h2⟩; have H1 := Lib.hid h1; have H2 := Lib.hid h2; clear h1 h2))
    | (go_at_call 84; refine (string_any _ _ _ _ H1.out).mono ?_; rintro e_ w2 ⟨rfl, q2, hq⟩; have HQ := Lib.hid (enc_below H2.out hq); clear hq)
    | (go_at_call 63; refine (word_nil _).mono ?_; rintro e_ w3 ⟨rfl, rfl⟩))
  all_goals (go_ret2; exact ⟨rfl, HQ.out⟩)
set_option maxHeartbeats 4000000 in
set_option maxRecDepth 100000 in
theorem encVal_9 (fl : Bool) (n u b : Int) (t : ByteArray) (pt : Int) (pf pl : Bool) (pi pn : Int) (w : World) :
    Calls Tryd.prog 27 #[.agg #[.int .i64 9, .bool fl, .int .i64 n, .int .u64 u, .int .u64 b, .string t, .int .i64 pt, .bool pf, .bool pl, .int .i64 pi, .int .i64 pn]] w fun e w' => e = .returned (.tuple #[.string ⟨(Lib.beBytes 4 (u % 4294967296).toNat).toArray⟩, .string ⟨#[]⟩]) ∧ Below w.heap.size w w' := by
  have hF : Bf (w.heap.size + 1) (w.heap.size + 1) [] ((w.alloc (.cells #[.int .i64 9, .bool fl, .int .i64 n, .int .u64 u, .int .u64 b, .string t, .int .i64 pt, .bool pf, .bool pl, .int .i64 pi, .int .i64 pn] 26)).alloc (.cells #[.slice none 0 0, .int .i64 0, .int .i8 0] 129)) := by
    have := fresh_Bf (w.alloc (.cells #[.int .i64 9, .bool fl, .int .i64 n, .int .u64 u, .int .u64 b, .string t, .int .i64 pt, .bool pf, .bool pl, .int .i64 pi, .int .i64 pn] 26)); rwa [World.size_alloc] at this
  have HC := Lib.hid ((show _ from by have := encU32_any _ _ (u % 4294967296).toNat [] _ hF (by omega) (by decide); rwa [show ((u % 4294967296).toNat : Int) = u % 4294967296 from by omega] at this))
  clear hF
  go_enter Tryd.func27, Tryd.ntmps27
  go_wp2_with (first
    | (go_at_call 80; go_loud (refine HC.out.mono ?_; rintro e_ w1 ⟨rfl, h1, h2⟩; have H1 := Lib.hid h1; have H2 := Lib.hid h2; clear h1 h2))
    | (go_at_call 84; refine (string_any _ _ _ _ H1.out).mono ?_; rintro e_ w2 ⟨rfl, q2, hq⟩; have HQ := Lib.hid (enc_below H2.out hq); clear hq)
    | (go_at_call 63; refine (word_nil _).mono ?_; rintro e_ w3 ⟨rfl, rfl⟩))
  all_goals (go_ret2; exact ⟨rfl, HQ.out⟩)
set_option maxHeartbeats 4000000 in
set_option maxRecDepth 100000 in
theorem encVal_0 (fl : Bool) (n u b : Int) (t : ByteArray) (pt : Int) (pf pl : Bool) (pi pn : Int) (w : World) :
    Calls Tryd.prog 27 #[.agg #[.int .i64 0, .bool fl, .int .i64 n, .int .u64 u, .int .u64 b, .string t, .int .i64 pt, .bool pf, .bool pl, .int .i64 pi, .int .i64 pn]] w fun e w' => e = .returned (.tuple #[.string ⟨([if fl then 1 else 0]).toArray⟩, .string ⟨#[]⟩]) ∧ Below w.heap.size w w' := by
  have hF : Bf (w.heap.size + 1) (w.heap.size + 1) [] ((w.alloc (.cells #[.int .i64 0, .bool fl, .int .i64 n, .int .u64 u, .int .u64 b, .string t, .int .i64 pt, .bool pf, .bool pl, .int .i64 pi, .int .i64 pn] 26)).alloc (.cells #[.slice none 0 0, .int .i64 0, .int .i8 0] 129)) := by
    have := fresh_Bf (w.alloc (.cells #[.int .i64 0, .bool fl, .int .i64 n, .int .u64 u, .int .u64 b, .string t, .int .i64 pt, .bool pf, .bool pl, .int .i64 pi, .int .i64 pn] 26)); rwa [World.size_alloc] at this
  have HC := Lib.hid (encBool_any _ _ fl [] _ hF (by decide))
  clear hF
  go_enter Tryd.func27, Tryd.ntmps27
  go_wp2_with (first
    | (go_at_call 68; go_loud (refine HC.out.mono ?_; rintro e_ w1 ⟨rfl, h1, h2⟩; have H1 := Lib.hid h1; have H2 := Lib.hid h2; clear h1 h2))
    | (go_at_call 84; refine (string_any _ _ _ _ H1.out).mono ?_; rintro e_ w2 ⟨rfl, q2, hq⟩; have HQ := Lib.hid (enc_below H2.out hq); clear hq)
    | (go_at_call 63; refine (word_nil _).mono ?_; rintro e_ w3 ⟨rfl, rfl⟩))
  all_goals (go_ret2; exact ⟨rfl, HQ.out⟩)
set_option maxHeartbeats 4000000 in
set_option maxRecDepth 100000 in
theorem encVal_1 (fl : Bool) (n u b : Int) (t : ByteArray) (pt : Int) (pf pl : Bool) (pi pn : Int) (w : World) :
    Calls Tryd.prog 27 #[.agg #[.int .i64 1, .bool fl, .int .i64 n, .int .u64 u, .int .u64 b, .string t, .int .i64 pt, .bool pf, .bool pl, .int .i64 pi, .int .i64 pn]] w fun e w' => e = .returned (.tuple #[.string ⟨([(n % 256).toNat.toUInt8]).toArray⟩, .string ⟨#[]⟩]) ∧ Below w.heap.size w w' := by
  have hF : Bf (w.heap.size + 1) (w.heap.size + 1) [] ((w.alloc (.cells #[.int .i64 1, .bool fl, .int .i64 n, .int .u64 u, .int .u64 b, .string t, .int .i64 pt, .bool pf, .bool pl, .int .i64 pi, .int .i64 pn] 26)).alloc (.cells #[.slice none 0 0, .int .i64 0, .int .i8 0] 129)) := by
    have := fresh_Bf (w.alloc (.cells #[.int .i64 1, .bool fl, .int .i64 n, .int .u64 u, .int .u64 b, .string t, .int .i64 pt, .bool pf, .bool pl, .int .i64 pi, .int .i64 pn] 26)); rwa [World.size_alloc] at this
  have HC := Lib.hid ((show _ from by have := encByte_any _ _ (n % 256).toNat.toUInt8 [] _ hF (by decide); rwa [show (((n % 256).toNat.toUInt8.toNat : Nat) : Int) = n % 256 from by rw [u8_toNat (by omega)]; omega] at this))
  clear hF
  go_enter Tryd.func27, Tryd.ntmps27
  go_wp2_with (first
    | (go_at_call 69; go_loud (refine HC.out.mono ?_; rintro e_ w1 ⟨rfl, h1, h2⟩; have H1 := Lib.hid h1; have H2 := Lib.hid h2; clear h1 h2))
    | (go_at_call 84; refine (string_any _ _ _ _ H1.out).mono ?_; rintro e_ w2 ⟨rfl, q2, hq⟩; have HQ := Lib.hid (enc_below H2.out hq); clear hq)
    | (go_at_call 63; refine (word_nil _).mono ?_; rintro e_ w3 ⟨rfl, rfl⟩))
  all_goals (go_ret2; exact ⟨rfl, HQ.out⟩)
set_option maxHeartbeats 4000000 in
set_option maxRecDepth 100000 in
theorem encVal_4 (fl : Bool) (n u b : Int) (t : ByteArray) (pt : Int) (pf pl : Bool) (pi pn : Int) (w : World) (hn0 : -9223372036854775808 ≤ n) (hn1 : n ≤ 9223372036854775807) :
    Calls Tryd.prog 27 #[.agg #[.int .i64 4, .bool fl, .int .i64 n, .int .u64 u, .int .u64 b, .string t, .int .i64 pt, .bool pf, .bool pl, .int .i64 pi, .int .i64 pn]] w fun e w' => e = .returned (.tuple #[.string ⟨(Lib.beBytes 8 (n + 9223372036854775808).toNat).toArray⟩, .string ⟨#[]⟩]) ∧ Below w.heap.size w w' := by
  have hF : Bf (w.heap.size + 1) (w.heap.size + 1) [] ((w.alloc (.cells #[.int .i64 4, .bool fl, .int .i64 n, .int .u64 u, .int .u64 b, .string t, .int .i64 pt, .bool pf, .bool pl, .int .i64 pi, .int .i64 pn] 26)).alloc (.cells #[.slice none 0 0, .int .i64 0, .int .i8 0] 129)) := by
    have := fresh_Bf (w.alloc (.cells #[.int .i64 4, .bool fl, .int .i64 n, .int .u64 u, .int .u64 b, .string t, .int .i64 pt, .bool pf, .bool pl, .int .i64 pi, .int .i64 pn] 26)); rwa [World.size_alloc] at this
  have HC := Lib.hid (encTime_any _ _ n [] _ hn0 hn1 hF (by decide))
  clear hn0 hn1
  clear hF
  go_enter Tryd.func27, Tryd.ntmps27
  go_wp2_with (first
    | (go_at_call 73; go_loud (refine HC.out.mono ?_; rintro e_ w1 ⟨rfl, h1, h2⟩; have H1 := Lib.hid h1; have H2 := Lib.hid h2; clear h1 h2))
    | (go_at_call 84; refine (string_any _ _ _ _ H1.out).mono ?_; rintro e_ w2 ⟨rfl, q2, hq⟩; have HQ := Lib.hid (enc_below H2.out hq); clear hq)
    | (go_at_call 63; refine (word_nil _).mono ?_; rintro e_ w3 ⟨rfl, rfl⟩))
  all_goals (go_ret2; exact ⟨rfl, HQ.out⟩)
set_option maxHeartbeats 4000000 in
set_option maxRecDepth 100000 in
theorem encVal_5 (fl : Bool) (n u b : Int) (t : ByteArray) (pt : Int) (pf pl : Bool) (pi pn : Int) (w : World) :
    Calls Tryd.prog 27 #[.agg #[.int .i64 5, .bool fl, .int .i64 n, .int .u64 u, .int .u64 b, .string t, .int .i64 pt, .bool pf, .bool pl, .int .i64 pi, .int .i64 pn]] w fun e w' => e = .returned (.tuple #[.string ⟨(Lib.beBytes 4 (wrap32 n % 4294967296).toNat).toArray⟩, .string ⟨#[]⟩]) ∧ Below w.heap.size w w' := by
  have hF : Bf (w.heap.size + 1) (w.heap.size + 1) [] ((w.alloc (.cells #[.int .i64 5, .bool fl, .int .i64 n, .int .u64 u, .int .u64 b, .string t, .int .i64 pt, .bool pf, .bool pl, .int .i64 pi, .int .i64 pn] 26)).alloc (.cells #[.slice none 0 0, .int .i64 0, .int .i8 0] 129)) := by
    have := fresh_Bf (w.alloc (.cells #[.int .i64 5, .bool fl, .int .i64 n, .int .u64 u, .int .u64 b, .string t, .int .i64 pt, .bool pf, .bool pl, .int .i64 pi, .int .i64 pn] 26)); rwa [World.size_alloc] at this
  have HC := Lib.hid (encI32_any _ _ (wrap32 n) [] _ hF (by decide))
  clear hF
  go_enter Tryd.func27, Tryd.ntmps27
  go_wp2_with (first
    | (go_at_call 74; go_loud (refine HC.out.mono ?_; rintro e_ w1 ⟨rfl, h1, h2⟩; have H1 := Lib.hid h1; have H2 := Lib.hid h2; clear h1 h2))
    | (go_at_call 84; refine (string_any _ _ _ _ H1.out).mono ?_; rintro e_ w2 ⟨rfl, q2, hq⟩; have HQ := Lib.hid (enc_below H2.out hq); clear hq)
    | (go_at_call 63; refine (word_nil _).mono ?_; rintro e_ w3 ⟨rfl, rfl⟩))
  all_goals (go_ret2; exact ⟨rfl, HQ.out⟩)
set_option maxHeartbeats 4000000 in
set_option maxRecDepth 100000 in
theorem encVal_3 (fl : Bool) (n u b : Int) (t : ByteArray) (pt : Int) (pf pl : Bool) (pi pn : Int) (w : World) (hb0 : 0 ≤ b) (hb1 : b < 18446744073709551616) :
    Calls Tryd.prog 27 #[.agg #[.int .i64 3, .bool fl, .int .i64 n, .int .u64 u, .int .u64 b, .string t, .int .i64 pt, .bool pf, .bool pl, .int .i64 pi, .int .i64 pn]] w fun e w' => e = .returned (.tuple #[.string ⟨(Lib.beBytes 8 b.toNat).toArray⟩, .string ⟨#[]⟩]) ∧ Below w.heap.size w w' := by
  have hF : Bf (w.heap.size + 1) (w.heap.size + 1) [] ((w.alloc (.cells #[.int .i64 3, .bool fl, .int .i64 n, .int .u64 u, .int .u64 b, .string t, .int .i64 pt, .bool pf, .bool pl, .int .i64 pi, .int .i64 pn] 26)).alloc (.cells #[.slice none 0 0, .int .i64 0, .int .i8 0] 129)) := by
    have := fresh_Bf (w.alloc (.cells #[.int .i64 3, .bool fl, .int .i64 n, .int .u64 u, .int .u64 b, .string t, .int .i64 pt, .bool pf, .bool pl, .int .i64 pi, .int .i64 pn] 26)); rwa [World.size_alloc] at this
  have HC := Lib.hid (encF64_any _ _ b.toNat [] _ hF (by omega) (by decide))
  have fb : ∀ W, (callFunc 72 #[.int .u64 b]).run Tryd.prog W = .ok (.value (.float .f64 b.toNat)) W := fun _ => by kernel_rfl
  clear hb0 hb1
  clear hF
  go_enter Tryd.func27, Tryd.ntmps27
  go_wp2_with (first
    | (go_at_call 71; go_loud (refine HC.out.mono ?_; rintro e_ w1 ⟨rfl, h1, h2⟩; have H1 := Lib.hid h1; have H2 := Lib.hid h2; clear h1 h2))
    | (go_at_call 84; refine (string_any _ _ _ _ H1.out).mono ?_; rintro e_ w2 ⟨rfl, q2, hq⟩; have HQ := Lib.hid (enc_below H2.out hq); clear hq)
    | (go_at_call 63; refine (word_nil _).mono ?_; rintro e_ w3 ⟨rfl, rfl⟩))
  all_goals (go_ret2; exact ⟨rfl, HQ.out⟩)
set_option maxHeartbeats 4000000 in
set_option maxRecDepth 100000 in
theorem encVal_7 (fl : Bool) (n u b : Int) (t : ByteArray) (pt : Int) (pf pl : Bool) (pi pn : Int) (w : World) (hb0 : 0 ≤ b) (hb1 : b < 18446744073709551616) :
    Calls Tryd.prog 27 #[.agg #[.int .i64 7, .bool fl, .int .i64 n, .int .u64 u, .int .u64 b, .string t, .int .i64 pt, .bool pf, .bool pl, .int .i64 pi, .int .i64 pn]] w fun e w' => e = .returned (.tuple #[.string ⟨(Lib.beBytes 4 (b % 4294967296).toNat).toArray⟩, .string ⟨#[]⟩]) ∧ Below w.heap.size w w' := by
  have hF : Bf (w.heap.size + 1) (w.heap.size + 1) [] ((w.alloc (.cells #[.int .i64 7, .bool fl, .int .i64 n, .int .u64 u, .int .u64 b, .string t, .int .i64 pt, .bool pf, .bool pl, .int .i64 pi, .int .i64 pn] 26)).alloc (.cells #[.slice none 0 0, .int .i64 0, .int .i8 0] 129)) := by
    have := fresh_Bf (w.alloc (.cells #[.int .i64 7, .bool fl, .int .i64 n, .int .u64 u, .int .u64 b, .string t, .int .i64 pt, .bool pf, .bool pl, .int .i64 pi, .int .i64 pn] 26)); rwa [World.size_alloc] at this
  have HC := Lib.hid (encF32_any _ _ (b % 4294967296).toNat [] _ hF (by omega) (by decide))
  have fb : ∀ W, (callFunc 78 #[.int .u32 (b % 4294967296)]).run Tryd.prog W = .ok (.value (.float .f32 (b % 4294967296).toNat)) W := fun _ => by kernel_rfl
  clear hb0 hb1
  clear hF
  go_enter Tryd.func27, Tryd.ntmps27
  go_wp2_with (first
    | (go_at_call 77; go_loud (refine HC.out.mono ?_; rintro e_ w1 ⟨rfl, h1, h2⟩; have H1 := Lib.hid h1; have H2 := Lib.hid h2; clear h1 h2))
    | (go_at_call 84; refine (string_any _ _ _ _ H1.out).mono ?_; rintro e_ w2 ⟨rfl, q2, hq⟩; have HQ := Lib.hid (enc_below H2.out hq); clear hq)
    | (go_at_call 63; refine (word_nil _).mono ?_; rintro e_ w3 ⟨rfl, rfl⟩))
  all_goals (go_ret2; exact ⟨rfl, HQ.out⟩)
end Go.Proofs.YtgdbeiadlgkedaaDoor

/- Contracts: a bool and a byte that are read. -/
namespace Go.Proofs.YtgdbeiadlgkedaaDoor
open Go.RowKit
set_option linter.unusedVariables false
set_option linter.unusedSimpArgs false

theorem compES : (Tryd.prog.info? 182).map (·.comparable) = some true := by kernel_rfl
theorem sizeES : (Tryd.prog.info? 184).map (·.size) = some 1 := by kernel_rfl
theorem eql_err (a : Addr) : ∀ W : World, (binOp .eql 82 (errV a) (errV a)).run Tryd.prog W = .ok (.bool true) W := by
  intro W
  obtain ⟨i, hi, hcmp⟩ := Option.map_eq_some_iff.1 compES
  obtain ⟨j, hj, _⟩ := Option.map_eq_some_iff.1 sizeES
  exact run_eql_iface_ptr_same (w := W) a Tryd.underlying82 Tryd.underlying182 hi hcmp hj
set_option maxHeartbeats 2000000 in
set_option maxRecDepth 100000 in
theorem decBool_eof (B : Nat) (pe pl : Addr) (r g : Nat) (l : List UInt8) (i : Nat) (w : World) (h : Rd r g l i w) (he : Env B pe pl w) (hBr : B ≤ r) (hi : ¬ i + 1 ≤ l.length) :
    Calls Tryd.prog 46 #[rdI r] w fun e w' => ∃ ev, e = .returned (.tuple #[.bool false, ev]) ∧ Fell r g l w w' ev := by
  have hne := h.ge (.cells #[] 0)
  have hrw := h.lt
  have hC := fix_bad B pe pl r g l i w.heap.size 1 _ _ _ (h.alloc (.cells #[.int .u8 0] 161)) (he.below ((Below.refl B w).alloc (by omega) _)) hBr (by omega) (by decide) (by decide) hi (heap_alloc_new w _) hne.1 hne.2 rfl
  have HC := Lib.hid hC
  have HE := Lib.hid he
  have HR := Lib.hid (And.intro hBr hrw)
  have eq1 := eql_err pe
  clear hC h hne hi he hBr hrw
  go_enter Tryd.func46, Tryd.ntmps46
  go_wp2_with (go_at_call 94; go_loud (refine HC.out.mono ?_; rintro e_ w1 ⟨rfl, h1, h3⟩; have H1 := Lib.hid h1; have HG := Lib.hid (Two.grown (grown_alloc (grown_refl (r := r) w) _) h3 (Nat.le_refl _)); have HE1 := Lib.hid (HE.out.below (grown_below HG.out (by have := HR.out; omega) HR.out.1)); have x0 := HE1.out.eof; clear h1 h3))
  go_ret2
  exact ⟨errV pe, rfl, HG.out, HE1.out.errE, _, H1.out⟩
set_option maxHeartbeats 2000000 in
set_option maxRecDepth 100000 in
theorem decByte_eof (B : Nat) (pe pl : Addr) (r g : Nat) (l : List UInt8) (i : Nat) (w : World) (h : Rd r g l i w) (he : Env B pe pl w) (hBr : B ≤ r) (hi : ¬ i + 1 ≤ l.length) :
    Calls Tryd.prog 47 #[rdI r] w fun e w' => ∃ ev, e = .returned (.tuple #[.int .u8 0, ev]) ∧ Fell r g l w w' ev := by
  have hne := h.ge (.cells #[] 0)
  have hrw := h.lt
  have hC := fix_bad B pe pl r g l i w.heap.size 1 _ _ _ (h.alloc (.cells #[.int .u8 0] 161)) (he.below ((Below.refl B w).alloc (by omega) _)) hBr (by omega) (by decide) (by decide) hi (heap_alloc_new w _) hne.1 hne.2 rfl
  have HC := Lib.hid hC
  have HE := Lib.hid he
  have HR := Lib.hid (And.intro hBr hrw)
  have eq1 := eql_err pe
  clear hC h hne hi he hBr hrw
  go_enter Tryd.func47, Tryd.ntmps47
  go_wp2_with (go_at_call 94; go_loud (refine HC.out.mono ?_; rintro e_ w1 ⟨rfl, h1, h3⟩; have H1 := Lib.hid h1; have HG := Lib.hid (Two.grown (grown_alloc (grown_refl (r := r) w) _) h3 (Nat.le_refl _)); have HE1 := Lib.hid (HE.out.below (grown_below HG.out (by have := HR.out; omega) HR.out.1)); have x0 := HE1.out.eof; clear h1 h3))
  go_ret2
  exact ⟨errV pe, rfl, HG.out, HE1.out.errE, _, H1.out⟩
set_option maxHeartbeats 2000000 in
set_option maxRecDepth 100000 in
theorem decByte_ok (r g : Nat) (l : List UInt8) (i : Nat) (x : UInt8) (w : World) (h : Rd r g l i w) (hx : l[i]? = some x) :
    Calls Tryd.prog 47 #[rdI r] w fun e w' => e = .returned (.tuple #[.int .u8 x.toNat, .nilIface]) ∧ w.grownBy w' (some r) ∧ Rd r g l (i + 1) w' := by
  have hne := h.ge (.cells #[] 0)
  have hi : i + 1 ≤ l.length := (List.getElem?_eq_some_iff.1 hx).1
  have hC := fix_ok r g l i w.heap.size 1 _ _ _ (h.alloc (.cells #[.int .u8 0] 161)) (by decide) hi (heap_alloc_new w _) hne.1 hne.2 rfl
  have HC := Lib.hid hC
  have HX := Lib.hid (show ((l.drop i).take 1)[0]? = some x by rw [List.getElem?_take_of_lt (by decide), List.getElem?_drop]; exact hx)
  clear hC h hne hi hx
  go_enter Tryd.func47, Tryd.ntmps47
  go_wp2_with (first | (go_at_call 94; go_loud (refine HC.out.mono ?_; rintro e_ w1 ⟨rfl, h1, h2, h3⟩; have H1 := Lib.hid h1; have x0 : w1.cell? ⟨w.heap.size, 0, none⟩ = some (.int .u8 x.toNat) := (h2.get HX.out).trans rfl; have HG := Lib.hid (Two.grown (grown_alloc (grown_refl (r := r) w) _) h3 (Nat.le_refl _)); clear h1 h2 h3)))
  go_ret2
  exact ⟨rfl, HG.out, H1.out⟩
set_option maxHeartbeats 2000000 in
set_option maxRecDepth 100000 in
theorem decBool_0 (r g : Nat) (l : List UInt8) (i : Nat) (x : UInt8) (w : World) (h : Rd r g l i w) (hx : l[i]? = some x) (h0 : x = 0) :
    Calls Tryd.prog 46 #[rdI r] w fun e w' => e = .returned (.tuple #[.bool false, .nilIface]) ∧ w.grownBy w' (some r) ∧ Rd r g l (i + 1) w' := by
  have hne := h.ge (.cells #[] 0)
  have hi : i + 1 ≤ l.length := (List.getElem?_eq_some_iff.1 hx).1
  have hC := fix_ok r g l i w.heap.size 1 _ _ _ (h.alloc (.cells #[.int .u8 0] 161)) (by decide) hi (heap_alloc_new w _) hne.1 hne.2 rfl
  have HC := Lib.hid hC
  have HX := Lib.hid (show ((l.drop i).take 1)[0]? = some x by rw [List.getElem?_take_of_lt (by decide), List.getElem?_drop]; exact hx)
  subst h0
  clear hC h hne hi hx
  go_enter Tryd.func46, Tryd.ntmps46
  go_wp2_with (first | (go_at_call 94; go_loud (refine HC.out.mono ?_; rintro e_ w1 ⟨rfl, h1, h2, h3⟩; have H1 := Lib.hid h1; have x0 : w1.cell? ⟨w.heap.size, 0, none⟩ = some (.int .u8 0) := (h2.get HX.out).trans rfl; have HG := Lib.hid (Two.grown (grown_alloc (grown_refl (r := r) w) _) h3 (Nat.le_refl _)); clear h1 h2 h3)))
  go_ret2
  exact ⟨rfl, HG.out, H1.out⟩
set_option maxHeartbeats 2000000 in
set_option maxRecDepth 100000 in
theorem decBool_1 (r g : Nat) (l : List UInt8) (i : Nat) (x : UInt8) (w : World) (h : Rd r g l i w) (hx : l[i]? = some x) (h0 : x = 1) :
    Calls Tryd.prog 46 #[rdI r] w fun e w' => e = .returned (.tuple #[.bool true, .nilIface]) ∧ w.grownBy w' (some r) ∧ Rd r g l (i + 1) w' := by
  have hne := h.ge (.cells #[] 0)
  have hi : i + 1 ≤ l.length := (List.getElem?_eq_some_iff.1 hx).1
  have hC := fix_ok r g l i w.heap.size 1 _ _ _ (h.alloc (.cells #[.int .u8 0] 161)) (by decide) hi (heap_alloc_new w _) hne.1 hne.2 rfl
  have HC := Lib.hid hC
  have HX := Lib.hid (show ((l.drop i).take 1)[0]? = some x by rw [List.getElem?_take_of_lt (by decide), List.getElem?_drop]; exact hx)
  subst h0
  clear hC h hne hi hx
  go_enter Tryd.func46, Tryd.ntmps46
  go_wp2_with (first | (go_at_call 94; go_loud (refine HC.out.mono ?_; rintro e_ w1 ⟨rfl, h1, h2, h3⟩; have H1 := Lib.hid h1; have x0 : w1.cell? ⟨w.heap.size, 0, none⟩ = some (.int .u8 1) := (h2.get HX.out).trans rfl; have HG := Lib.hid (Two.grown (grown_alloc (grown_refl (r := r) w) _) h3 (Nat.le_refl _)); clear h1 h2 h3)))
  go_ret2
  exact ⟨rfl, HG.out, H1.out⟩
set_option maxHeartbeats 2000000 in
set_option maxRecDepth 100000 in
theorem decBool_bad (r g : Nat) (l : List UInt8) (i : Nat) (x : UInt8) (w : World) (h : Rd r g l i w) (hx : l[i]? = some x) (h0 : x ≠ 0) (h1 : x ≠ 1) :
    Calls Tryd.prog 46 #[rdI r] w fun e w' => ∃ ev, e = .returned (.tuple #[.bool false, ev]) ∧ Fell r g l w w' ev := by
  have hne := h.ge (.cells #[] 0)
  have hi : i + 1 ≤ l.length := (List.getElem?_eq_some_iff.1 hx).1
  have hC := fix_ok r g l i w.heap.size 1 _ _ _ (h.alloc (.cells #[.int .u8 0] 161)) (by decide) hi (heap_alloc_new w _) hne.1 hne.2 rfl
  have HC := Lib.hid hC
  have HX := Lib.hid (show ((l.drop i).take 1)[0]? = some x by rw [List.getElem?_take_of_lt (by decide), List.getElem?_drop]; exact hx)
  obtain ⟨n, hn⟩ : ∃ n, Hid (x.toNat = n) := ⟨_, Lib.hid rfl⟩
  have q0 : ((n : Int) == 0) = false := beq_eq_false_iff_ne.mpr (fun e => h0 (UInt8.toNat_inj.1 (by rw [hn.out]; exact Int.ofNat.inj e)))
  have q1 : ((n : Int) == 1) = false := beq_eq_false_iff_ne.mpr (fun e => h1 (UInt8.toNat_inj.1 (by rw [hn.out]; exact Int.ofNat.inj e)))
  clear h0 h1
  clear hC h hne hi hx
  go_enter Tryd.func46, Tryd.ntmps46
  go_wp2_with (first | (go_at_call 94; go_loud (refine HC.out.mono ?_; rintro e_ w1 ⟨rfl, h1, h2, h3⟩; have H1 := Lib.hid h1; have x0 : w1.cell? ⟨w.heap.size, 0, none⟩ = some (.int .u8 n) := (h2.get HX.out).trans (by rw [hn.out]); have HG := Lib.hid (Two.grown (grown_alloc (grown_refl (r := r) w) _) h3 (Nat.le_refl _)); clear h1 h2 h3)) | (go_at_call 95; refine (errNew_any _ _).mono ?_; rintro e_ w2 ⟨rfl, hw2⟩; have HW2 := Lib.hid hw2; clear hw2))
  go_ret2
  exact ⟨_, rfl, by rw [HW2.out]; exact grown_alloc HG.out _, ⟨_, _, rfl, by rw [HW2.out]; exact (blk_cell (heap_alloc_new w1 _) 0).trans rfl, by decide⟩, _, by rw [HW2.out]; exact H1.out.alloc _⟩
end Go.Proofs.YtgdbeiadlgkedaaDoor

/- Contracts: DecodeValue of numbers. -/
namespace Go.Proofs.YtgdbeiadlgkedaaDoor
open Go.RowKit
open Go.Joins (below_bytesWorld)
set_option linter.unusedVariables false
set_option linter.unusedSimpArgs false

theorem Rd.keptRG {r g : Nat} {l : List UInt8} {i : Nat} {w w' : World} (h : Rd r g l i w) (hr : w'.heap[r]? = w.heap[r]?) (hg : w'.heap[g]? = w.heap[g]?) : Rd r g l i w' := by
  obtain ⟨c, pv, h1, h2, h3, h4, h5, h6, ⟨o, h7⟩, h8⟩ := h
  exact ⟨c, pv, hr.trans h1, h2, h3, h4, h5, h6, ⟨o, hg.trans h7⟩, fun j x hj => (World.cell?_of_block (a := ⟨g, j, none⟩) hg).trans (h8 j x hj)⟩
theorem Rd.set {r g : Nat} {l : List UInt8} {i : Nat} {w : World} (h : Rd r g l i w) (a : Addr) (v : Value) (hr : a.block ≠ r) (hg : a.block ≠ g) : Rd r g l i (w.setCell a v) :=
  h.keptRG (Below.heap_setCell _ _ _ _ (fun e => hr e.symm)) (Below.heap_setCell _ _ _ _ (fun e => hg e.symm))
/-- A reader over a string's bytes. -/
theorem newRd_any (w0 : World) (b : Nat) (hb : w0.heap.size = b) (s : ByteArray) (hs : s.size ≤ 4294967296) :
    Calls Tryd.prog 45 #[.slice (some ⟨b, 0, none⟩) s.size (grownCap w0 s.size 0 5)] (Lib.bytesWorld w0 5 s) fun e w' => ∃ r, e = .returned (.pointer (some ⟨r, 0, none⟩)) ∧ Rd r b s.data.toList 0 w' ∧ Below w0.heap.size w0 w' ∧ b < r := by
  subst hb
  refine (newReader_any _ _ _ _).mono fun e w' ⟨he, hw⟩ => ⟨_, he, ?_, ?_, ?_⟩
  · subst hw
    have hsz : s.size = s.data.toList.length := by rw [Array.length_toList]; rfl
    have hn := Lib.bytesWorld_at_new w0 5 s
    have hlt : w0.heap.size < (Lib.bytesWorld w0 5 s).heap.size := by rw [Lib.bytesWorld_size]; omega
    have e0 := Below.heap_alloc (Lib.bytesWorld w0 5 s) (.cells #[.slice (some ⟨w0.heap.size, 0, none⟩) s.size (grownCap w0 s.size 0 5), .int .i64 0, .int .i64 (-1)] 158) w0.heap.size hlt
    refine ⟨grownCap w0 s.size 0 5, -1, ?_, by omega, by rw [← hsz]; exact grownCap_ge _ _ _ _, ?_, Nat.zero_le _, by rw [← hsz]; exact hs, ⟨_, e0.trans hn⟩, ?_⟩
    · rw [← hsz]; exact heap_alloc_new _ _
    · have := grownCap_le_maxLen w0 s.size 0 5 (by unfold maxLen; omega)
      unfold maxLen at this; omega
    · intro j x hj
      have hjl : j < s.size := by rw [hsz]; exact (List.getElem?_eq_some_iff.1 hj).1
      have := Lib.bytesWorld_cell w0 5 s j hjl
      rw [List.getD_eq_getElem?_getD, hj] at this
      exact (World.cell?_of_block (a := ⟨w0.heap.size, j, none⟩) e0).trans this
  · subst hw
    exact (below_bytesWorld _ w0 _ s (Nat.le_refl _)).trans ((Below.refl _ _).alloc (by rw [Lib.bytesWorld_size]; omega) _)
  · rw [Lib.bytesWorld_size]; omega
theorem conv_bytes : ∀ (W : World) (s : ByteArray), (convert 9 29 (.string s)).run Tryd.prog W = .ok (.slice (some ⟨W.heap.size, 0, none⟩) s.size (grownCap W s.size 0 5)) (Lib.bytesWorld W 5 s) := fun W s => Lib.run_convert_string_bytes (P := Tryd.prog) W _ _ _ s Tryd.underlying9 Tryd.underlying29 Tryd.underlying5
theorem setCells_self (b : Nat) (T : TypeId) (fr : Nat × Nat) (cs : Array Value) : ∀ (vs : List Value) (o : Nat) (w : World), w.heap[b]? = some (.cells cs T fr) → (∀ j v, vs[j]? = some v → cs[o + j]? = some v) → (w.setCells b o vs).heap[b]? = some (.cells cs T fr)
  | [], _, _, h, _ => h
  | v :: r, o, w, h, hv => by
    have e : cs.setIfInBounds o v = cs := by
      apply Array.ext_getElem?
      intro i
      rw [Array.getElem?_setIfInBounds]
      split
      · rename_i hi
        subst hi
        split
        · have := hv 0 v rfl; rw [Nat.add_zero] at this; exact this.symm
        · rw [Array.getElem?_eq_none (by omega)]
      · rfl
    have h1 := Lib.heap_setCell_same (i := o) h v
    rw [e] at h1
    exact setCells_self b T fr cs r (o + 1) _ h1 (fun j u hj => by rw [show o + 1 + j = o + (j + 1) by omega]; exact hv (j + 1) u hj)
theorem dv_below {w w1 w2 W : World} {r q : Nat} {a : Addr} {v v2 : Value} (h1 : Below w.heap.size w w1) (hg : (w1.setCell ⟨w.heap.size, 0, none⟩ v).grownBy w2 (some r)) (hW : W = w2.setCell a v2) (hr : w.heap.size ≤ r) (ha : w.heap.size ≤ a.block := by exact Nat.le_refl _) : Below w.heap.size w (W.drewN q) := by
  have h2 : Below w.heap.size w (w1.setCell ⟨w.heap.size, 0, none⟩ v) := h1.setCell (p := ⟨w.heap.size, 0, none⟩) (Nat.le_refl _) v
  have h3 : Below w.heap.size w w2 := h2.trans (grown_below hg h2.size hr)
  subst hW
  have h4 := h3.setCell (p := a) ha v2
  exact ⟨h4.os, h4.tape, h4.output, h4.size, h4.block⟩
theorem leNat_lt : ∀ l : List UInt8, Lib.leNat l < 256 ^ l.length
  | [] => by simp [Lib.leNat]
  | c :: r => by
    have := leNat_lt r
    have hc := c.toNat_lt
    simp only [Lib.leNat, List.length_cons, Nat.pow_succ]
    omega
theorem beNat_lt (l : List UInt8) : Lib.beNat l < 256 ^ l.length := by
  rw [Lib.beNat_eq]
  have := leNat_lt l.reverse
  rwa [List.length_reverse] at this
theorem beNat_lt4 (l : List UInt8) (h : l.length ≤ 4) : Lib.beNat l < 4294967296 := by
  have h1 := beNat_lt l
  have h2 : 256 ^ l.length ≤ 256 ^ 4 := Nat.pow_le_pow_right (by decide) h
  have e : 256 ^ 4 = 4294967296 := by decide
  omega
theorem beNat_lt8 (l : List UInt8) (h : l.length ≤ 8) : Lib.beNat l < 18446744073709551616 := by
  have h1 := beNat_lt l
  have h2 : 256 ^ l.length ≤ 256 ^ 8 := Nat.pow_le_pow_right (by decide) h
  have e : 256 ^ 8 = 18446744073709551616 := by decide
  omega
abbrev zv (k : Int) : Array Value := #[.int .i64 k, .bool false, .int .i64 0, .int .u64 0, .int .u64 0, .string ⟨#[]⟩, .int .i64 0, .bool false, .bool false, .int .i64 0, .int .i64 0]
/-- What stands behind NewReader. -/
theorem dv_start {w w1 : World} {O : Obj} {B r b : Nat} {pe pl : Addr} (hB : B ≤ w.heap.size) (he : Env B pe pl w) (hw : Below (w.alloc O).heap.size (w.alloc O) w1) (hr : w.heap.size + 1 < r) :
    w1.heap[w.heap.size]? = some O ∧ Env B pe pl w1 ∧ Below w.heap.size w w1 ∧ B ≤ r :=
  have h0 : Below w.heap.size w w1 := ((Below.refl _ w).alloc (Nat.le_refl _) O).trans (hw.mono (by simp))
  ⟨(hw.block _ (by simp)).trans (heap_alloc_new w O), he.below (h0.mono hB), h0, by omega⟩
theorem decVar_ok (B : Nat) (pe pl : Addr) (r g : Nat) (l : List UInt8) (i v k : Nat) (w : World) (h : Rd r g l i w) (he : Env B pe pl w) (hBr : B ≤ r) (hR : vrd 0 0 (l.drop i) = some (v, k)) :
    Calls Tryd.prog 61 #[rdI r] w fun e w' => e = .returned (.tuple #[.int .u64 (v : Nat), .nilIface]) ∧ w.grownBy w' (some r) ∧ Rd r g l (i + k) w' :=
  (decVar_any B pe pl r g l i w h he hBr _ hR).mono fun e w' ⟨hg, hh⟩ => by
    rcases hh with ⟨v', k', hvk, he, h1⟩ | ⟨hn, _⟩
    · obtain ⟨rfl, rfl⟩ : v = v' ∧ k = k' := by simpa using hvk
      exact ⟨he, hg, h1⟩
    · exact absurd hn (by simp)
theorem decVar_bad (B : Nat) (pe pl : Addr) (r g : Nat) (l : List UInt8) (i : Nat) (w : World) (h : Rd r g l i w) (he : Env B pe pl w) (hBr : B ≤ r) (hR : vrd 0 0 (l.drop i) = none) :
    Calls Tryd.prog 61 #[rdI r] w fun e w' => ∃ ev, e = .returned (.tuple #[.int .u64 0, ev]) ∧ Fell r g l w w' ev :=
  (decVar_any B pe pl r g l i w h he hBr _ hR).mono fun e w' ⟨hg, hh⟩ => by
    rcases hh with ⟨v', k', hvk, _⟩ | ⟨_, ev, i', he, h1, h2⟩
    · exact absurd hvk (by simp)
    · exact ⟨ev, he, hg, h1, i', h2⟩
/-- A store of what is there already turns nothing. -/
theorem same_set {w : World} {b i : Nat} {cs : Array Value} {T : TypeId} {fr : Nat × Nat} {v : Value} (h : w.heap[b]? = some (.cells cs T fr)) (hv : cs[i]? = some v) (k : Nat) : (w.setCell ⟨b, i, none⟩ v).heap[k]? = w.heap[k]? := by
  by_cases hk : k = b
  · subst hk
    have := setCells_self k T fr cs [v] i w h (fun j u hj => by
      cases j with
      | zero => rw [Nat.add_zero, hv]; exact hj
      | succ j => simp at hj)
    exact this.trans h.symm
  · exact Below.heap_setCell _ _ _ _ (fun e => hk e)
end Go.Proofs.YtgdbeiadlgkedaaDoor
