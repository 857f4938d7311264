/- Contracts: values of a size that are read. -/
import Derived.Test.YtgdbeiadlgkedaaDoorRv
import Derived.Test.YtgdbeiadlgkedaaDoorWr
namespace Go.Proofs.YtgdbeiadlgkedaaDoor
open Go.RowKit
set_option linter.unusedVariables false
set_option linter.unusedSimpArgs false

abbrev errV (p : Addr) : Value := .iface 182 (.pointer (some p))
theorem laidAt_get {cur : Array Value} {bs : List UInt8} {j : Nat} {x : UInt8} (h : bs[j]? = some x) : (laidAt cur 0 bs)[j]? = some (.int .u8 x.toNat) := by
  have hl := (List.getElem?_eq_some_iff.1 h).1
  simp only [laidAt, List.take_zero, List.nil_append, List.getElem?_toArray]
  rw [List.getElem?_append_left (by rw [cellsOf_len]; exact hl), cellsOf, List.getElem?_map, h]; rfl
/-- What a reader's call leaves behind where it falls. -/
def Fell (r g : Nat) (l : List UInt8) (w w' : World) (ev : Value) : Prop := w.grownBy w' (some r) ∧ Err ev w' ∧ ∃ i', Rd r g l i' w'
theorem Err.kept {v : Value} {w w' : World} (h : Err v w) (hk : ∀ k, k < w.heap.size → w'.heap[k]? = w.heap[k]?) : Err v w' := by
  obtain ⟨a, s, e1, e2, e3⟩ := h
  exact ⟨a, s, e1, (World.cell?_of_block (a := a) (hk _ (World.block_lt_of_cell? w a e2))).trans e2, e3⟩
theorem fix_ok (r g : Nat) (l : List UInt8) (i d n : Nat) (cur : Array Value) (T : TypeId) (w : World) (h : Rd r g l i w) (hn : 0 < n) (hi : i + n ≤ l.length) (hd : w.heap[d]? = some (.cells cur T (0, 0))) (hdr : d ≠ r) (hdg : d ≠ g) (hs : cur.size = n) :
    Calls Tryd.prog 94 #[rdI r, .slice (some ⟨d, 0, none⟩) n n] w fun e w' => e = .returned .nilIface ∧ Rd r g l (i + n) w' ∧ At w' ⟨d, 0, none⟩ ((l.drop i).take n) ∧ Two r d w w' :=
  (readNB_some r g l i d n n cur T w h (by omega) hd hdr hdg hi (by omega) hn (Nat.le_refl _)).mono fun e w' ⟨a1, a2, a3, a4⟩ => ⟨a1, a2, At.mk fun j x hj => (blk_cell a3 j).trans (laidAt_get hj), a4⟩
theorem fix_bad (B : Nat) (pe pl : Addr) (r g : Nat) (l : List UInt8) (i d n : Nat) (cur : Array Value) (T : TypeId) (w : World) (h : Rd r g l i w) (he : Env B pe pl w) (hBr : B ≤ r) (hBd : B ≤ d) (hn : 0 < n) (hn2 : n ≤ 4294967296) (hi : ¬ i + n ≤ l.length) (hd : w.heap[d]? = some (.cells cur T (0, 0))) (hdr : d ≠ r) (hdg : d ≠ g) (hs : cur.size = n) :
    Calls Tryd.prog 94 #[rdI r, .slice (some ⟨d, 0, none⟩) n n] w fun e w' => e = .returned (errV pe) ∧ Rd r g l l.length w' ∧ Two r d w w' := by
  have hle := h.le
  by_cases hi2 : i < l.length
  · exact readNB_few r g l i d n n cur T _ _ w h hi2 hd hdr hdg (by omega) (by omega) (Nat.le_refl _) he.eof (by have := he.b0; omega) (by have := he.b0; omega) hn2
  · obtain rfl : i = l.length := by omega
    exact (readNB_eof r g l d n n _ _ w h he.eof (Nat.le_refl _) hn).mono fun e w' ⟨a1, q, a2⟩ => ⟨a1, by rw [a2]; exact h.drewN q, by rw [a2]; exact (Two.refl r d w).drewN q⟩
theorem eight (l : List UInt8) (h : 8 ≤ l.length) : ∃ b0 b1 b2 b3 b4 b5 b6 b7, l.take 8 = [b0, b1, b2, b3, b4, b5, b6, b7] := by
  match l, h with
  | b0 :: b1 :: b2 :: b3 :: b4 :: b5 :: b6 :: b7 :: r, _ => exact ⟨b0, b1, b2, b3, b4, b5, b6, b7, rfl⟩
theorem four (l : List UInt8) (h : 4 ≤ l.length) : ∃ b0 b1 b2 b3, l.take 4 = [b0, b1, b2, b3] := by
  match l, h with
  | b0 :: b1 :: b2 :: b3 :: r, _ => exact ⟨b0, b1, b2, b3, rfl⟩
theorem At.get {w : World} {d : Nat} {l : List UInt8} (h : At w ⟨d, 0, none⟩ l) {j : Nat} {x : UInt8} (hj : l[j]? = some x) : w.cell? ⟨d, 0 + j, none⟩ = some (.int .u8 x.toNat) := by
  have := h j x hj
  rwa [Lib.addr_add] at this
theorem get64_any (d : Nat) (l : List UInt8) (w : World) (hl : 8 ≤ l.length) (h : At w ⟨d, 0, none⟩ (l.take 8)) :
    Calls Tryd.prog 96 #[.agg #[], .slice (some ⟨d, 0, none⟩) 8 8] w fun e w' => e = .returned (.int .u64 (Lib.beNat (l.take 8) : Nat)) ∧ Below w.heap.size w w' := by
  obtain ⟨b0, b1, b2, b3, b4, b5, b6, b7, e⟩ := eight l hl
  rw [e] at h ⊢
  exact Tryd.binary_BE_Uint64 d 0 8 8 b0 b1 b2 b3 b4 b5 b6 b7 w (by decide) (h.get (j := 0) rfl) (h.get (j := 1) rfl) (h.get (j := 2) rfl) (h.get (j := 3) rfl) (h.get (j := 4) rfl) (h.get (j := 5) rfl) (h.get (j := 6) rfl) (h.get (j := 7) rfl)
theorem get32_any (d : Nat) (l : List UInt8) (w : World) (hl : 4 ≤ l.length) (h : At w ⟨d, 0, none⟩ (l.take 4)) :
    Calls Tryd.prog 97 #[.agg #[], .slice (some ⟨d, 0, none⟩) 4 4] w fun e w' => e = .returned (.int .u32 (Lib.beNat (l.take 4) : Nat)) ∧ Below w.heap.size w w' := by
  obtain ⟨b0, b1, b2, b3, e⟩ := four l hl
  rw [e] at h ⊢
  exact Tryd.binary_BE_Uint32 d 0 4 4 b0 b1 b2 b3 w (by decide) (h.get (j := 0) rfl) (h.get (j := 1) rfl) (h.get (j := 2) rfl) (h.get (j := 3) rfl)
theorem grown_below_trans {r : Nat} {a b c : World} (h : a.grownBy b (some r)) (k : Below b.heap.size b c) : a.grownBy c (some r) := Lib.grownBy_below h k
theorem Rd.ge {r g : Nat} {l : List UInt8} {i : Nat} {w : World} (h : Rd r g l i w) (o : Obj) : w.heap.size ≠ r ∧ w.heap.size ≠ g := ⟨by have := h.lt; omega, by have := h.ltg; omega⟩
set_option maxHeartbeats 2000000 in
set_option maxRecDepth 100000 in
theorem decU64_ok (r g : Nat) (l : List UInt8) (i : Nat) (w : World) (h : Rd r g l i w) (hi : i + 8 ≤ l.length) :
    Calls Tryd.prog 59 #[rdI r] w fun e w' => e = .returned (.tuple #[.int .u64 (Lib.beNat ((l.drop i).take 8) : Nat), .nilIface]) ∧ w.grownBy w' (some r) ∧ Rd r g l (i + 8) w' := by
  have hne := h.ge (.cells #[] 0)
  have hC := fix_ok r g l i w.heap.size 8 _ _ _ (h.alloc (.cells #[.int .u8 0, .int .u8 0, .int .u8 0, .int .u8 0, .int .u8 0, .int .u8 0, .int .u8 0, .int .u8 0] 164)) (by decide) hi (heap_alloc_new w _) hne.1 hne.2 rfl
  have HC := Lib.hid hC
  have HI := Lib.hid (show 8 ≤ (l.drop i).length by rw [List.length_drop]; omega)
  clear hC h hne hi
  go_enter Tryd.func59, Tryd.ntmps59
  go_wp2_with (go_at_call 94; go_loud (refine HC.out.mono ?_; rintro e_ w1 ⟨rfl, h1, h2, h3⟩; have H1 := Lib.hid h1; have H2 := Lib.hid h2; have HG := Lib.hid (Two.grown (grown_alloc (grown_refl (r := r) w) _) h3 (Nat.le_refl _)); clear h1 h2 h3))
  go_region_with (go_at_call 96; refine (get64_any w.heap.size (l.drop i) _ HI.out ?ha).mono ?_; (case ha => exact H2.out); rintro e_ w2 ⟨rfl, hb⟩; have HB := Lib.hid hb; clear hb)
  all_goals
    go_wp2
    go_ret2
    exact ⟨rfl, Lib.grownBy_below (grown_drewN HG.out 1) HB.out, (H1.out.drewN 1).below HB.out⟩
set_option maxHeartbeats 2000000 in
set_option maxRecDepth 100000 in
theorem decU64_bad (B : Nat) (pe pl : Addr) (r g : Nat) (l : List UInt8) (i : Nat) (w : World) (h : Rd r g l i w) (he : Env B pe pl w) (hBr : B ≤ r) (hi : ¬ i + 8 ≤ l.length) :
    Calls Tryd.prog 59 #[rdI r] w fun e w' => ∃ ev, e = .returned (.tuple #[.int .u64 0, ev]) ∧ Fell r g l w w' ev := by
  have hne := h.ge (.cells #[] 0)
  have hrw := h.lt
  have hC := fix_bad B pe pl r g l i w.heap.size 8 _ _ _ (h.alloc (.cells #[.int .u8 0, .int .u8 0, .int .u8 0, .int .u8 0, .int .u8 0, .int .u8 0, .int .u8 0, .int .u8 0] 164)) (he.below ((Below.refl B w).alloc (by omega) _)) hBr (by omega) (by decide) (by decide) hi (heap_alloc_new w _) hne.1 hne.2 rfl
  have HC := Lib.hid hC
  have HE := Lib.hid he
  have HR := Lib.hid (And.intro hBr hrw)
  clear hC h hne hi he hBr hrw
  go_enter Tryd.func59, Tryd.ntmps59
  go_wp2_with (go_at_call 94; go_loud (refine HC.out.mono ?_; rintro e_ w1 ⟨rfl, h1, h3⟩; have H1 := Lib.hid h1; have HG := Lib.hid (Two.grown (grown_alloc (grown_refl (r := r) w) _) h3 (Nat.le_refl _)); clear h1 h3))
  go_ret2
  exact ⟨errV pe, rfl, HG.out, (HE.out.below (grown_below HG.out (by have := HR.out; omega) HR.out.1)).errE, _, H1.out⟩
set_option maxHeartbeats 2000000 in
set_option maxRecDepth 100000 in
theorem decU32_ok (r g : Nat) (l : List UInt8) (i : Nat) (w : World) (h : Rd r g l i w) (hi : i + 4 ≤ l.length) :
    Calls Tryd.prog 58 #[rdI r] w fun e w' => e = .returned (.tuple #[.int .u32 (Lib.beNat ((l.drop i).take 4) : Nat), .nilIface]) ∧ w.grownBy w' (some r) ∧ Rd r g l (i + 4) w' := by
  have hne := h.ge (.cells #[] 0)
  have hC := fix_ok r g l i w.heap.size 4 _ _ _ (h.alloc (.cells #[.int .u8 0, .int .u8 0, .int .u8 0, .int .u8 0] 168)) (by decide) hi (heap_alloc_new w _) hne.1 hne.2 rfl
  have HC := Lib.hid hC
  have HI := Lib.hid (show 4 ≤ (l.drop i).length by rw [List.length_drop]; omega)
  clear hC h hne hi
  go_enter Tryd.func58, Tryd.ntmps58
  go_wp2_with (go_at_call 94; go_loud (refine HC.out.mono ?_; rintro e_ w1 ⟨rfl, h1, h2, h3⟩; have H1 := Lib.hid h1; have H2 := Lib.hid h2; have HG := Lib.hid (Two.grown (grown_alloc (grown_refl (r := r) w) _) h3 (Nat.le_refl _)); clear h1 h2 h3))
  go_region_with (go_at_call 97; refine (get32_any w.heap.size (l.drop i) _ HI.out ?ha).mono ?_; (case ha => exact H2.out); rintro e_ w2 ⟨rfl, hb⟩; have HB := Lib.hid hb; clear hb)
  all_goals
    go_wp2
    go_ret2
    exact ⟨rfl, Lib.grownBy_below (grown_drewN HG.out 1) HB.out, (H1.out.drewN 1).below HB.out⟩
set_option maxHeartbeats 2000000 in
set_option maxRecDepth 100000 in
theorem decU32_bad (B : Nat) (pe pl : Addr) (r g : Nat) (l : List UInt8) (i : Nat) (w : World) (h : Rd r g l i w) (he : Env B pe pl w) (hBr : B ≤ r) (hi : ¬ i + 4 ≤ l.length) :
    Calls Tryd.prog 58 #[rdI r] w fun e w' => ∃ ev, e = .returned (.tuple #[.int .u32 0, ev]) ∧ Fell r g l w w' ev := by
  have hne := h.ge (.cells #[] 0)
  have hrw := h.lt
  have hC := fix_bad B pe pl r g l i w.heap.size 4 _ _ _ (h.alloc (.cells #[.int .u8 0, .int .u8 0, .int .u8 0, .int .u8 0] 168)) (he.below ((Below.refl B w).alloc (by omega) _)) hBr (by omega) (by decide) (by decide) hi (heap_alloc_new w _) hne.1 hne.2 rfl
  have HC := Lib.hid hC
  have HE := Lib.hid he
  have HR := Lib.hid (And.intro hBr hrw)
  clear hC h hne hi he hBr hrw
  go_enter Tryd.func58, Tryd.ntmps58
  go_wp2_with (go_at_call 94; go_loud (refine HC.out.mono ?_; rintro e_ w1 ⟨rfl, h1, h3⟩; have H1 := Lib.hid h1; have HG := Lib.hid (Two.grown (grown_alloc (grown_refl (r := r) w) _) h3 (Nat.le_refl _)); clear h1 h3))
  go_ret2
  exact ⟨errV pe, rfl, HG.out, (HE.out.below (grown_below HG.out (by have := HR.out; omega) HR.out.1)).errE, _, H1.out⟩
set_option maxHeartbeats 2000000 in
set_option maxRecDepth 100000 in
theorem decF64_ok (r g : Nat) (l : List UInt8) (i : Nat) (w : World) (h : Rd r g l i w) (hi : i + 8 ≤ l.length) :
    Calls Tryd.prog 49 #[rdI r] w fun e w' => e = .returned (.tuple #[.float .f64 (Lib.beNat ((l.drop i).take 8)), .nilIface]) ∧ w.grownBy w' (some r) ∧ Rd r g l (i + 8) w' := by
  have hne := h.ge (.cells #[] 0)
  have hC := fix_ok r g l i w.heap.size 8 _ _ _ (h.alloc (.cells #[.int .u8 0, .int .u8 0, .int .u8 0, .int .u8 0, .int .u8 0, .int .u8 0, .int .u8 0, .int .u8 0] 164)) (by decide) hi (heap_alloc_new w _) hne.1 hne.2 rfl
  have HC := Lib.hid hC
  have HI := Lib.hid (show 8 ≤ (l.drop i).length by rw [List.length_drop]; omega)
  have fb : ∀ W, (callFunc 72 #[.int .u64 (Lib.beNat ((l.drop i).take 8) : Nat)]).run Tryd.prog W = .ok (.value (.float .f64 (Lib.beNat ((l.drop i).take 8)))) W := fun _ => by kernel_rfl
  clear hC h hne hi
  go_enter Tryd.func49, Tryd.ntmps49
  go_wp2_with (go_at_call 94; go_loud (refine HC.out.mono ?_; rintro e_ w1 ⟨rfl, h1, h2, h3⟩; have H1 := Lib.hid h1; have H2 := Lib.hid h2; have HG := Lib.hid (Two.grown (grown_alloc (grown_refl (r := r) w) _) h3 (Nat.le_refl _)); clear h1 h2 h3))
  go_region_with (go_at_call 96; refine (get64_any w.heap.size (l.drop i) _ HI.out ?ha).mono ?_; (case ha => exact H2.out); rintro e_ w2 ⟨rfl, hb⟩; have HB := Lib.hid hb; clear hb)
  all_goals
    go_wp2
    go_ret2
    exact ⟨rfl, Lib.grownBy_below (grown_drewN HG.out 1) HB.out, (H1.out.drewN 1).below HB.out⟩
set_option maxHeartbeats 2000000 in
set_option maxRecDepth 100000 in
theorem decF64_bad (B : Nat) (pe pl : Addr) (r g : Nat) (l : List UInt8) (i : Nat) (w : World) (h : Rd r g l i w) (he : Env B pe pl w) (hBr : B ≤ r) (hi : ¬ i + 8 ≤ l.length) :
    Calls Tryd.prog 49 #[rdI r] w fun e w' => ∃ ev, e = .returned (.tuple #[.float .f64 0, ev]) ∧ Fell r g l w w' ev := by
  have hne := h.ge (.cells #[] 0)
  have hrw := h.lt
  have hC := fix_bad B pe pl r g l i w.heap.size 8 _ _ _ (h.alloc (.cells #[.int .u8 0, .int .u8 0, .int .u8 0, .int .u8 0, .int .u8 0, .int .u8 0, .int .u8 0, .int .u8 0] 164)) (he.below ((Below.refl B w).alloc (by omega) _)) hBr (by omega) (by decide) (by decide) hi (heap_alloc_new w _) hne.1 hne.2 rfl
  have HC := Lib.hid hC
  have HE := Lib.hid he
  have HR := Lib.hid (And.intro hBr hrw)
  clear hC h hne hi he hBr hrw
  go_enter Tryd.func49, Tryd.ntmps49
  go_wp2_with (go_at_call 94; go_loud (refine HC.out.mono ?_; rintro e_ w1 ⟨rfl, h1, h3⟩; have H1 := Lib.hid h1; have HG := Lib.hid (Two.grown (grown_alloc (grown_refl (r := r) w) _) h3 (Nat.le_refl _)); clear h1 h3))
  go_ret2
  exact ⟨errV pe, rfl, HG.out, (HE.out.below (grown_below HG.out (by have := HR.out; omega) HR.out.1)).errE, _, H1.out⟩
set_option maxHeartbeats 2000000 in
set_option maxRecDepth 100000 in
theorem decF32_ok (r g : Nat) (l : List UInt8) (i : Nat) (w : World) (h : Rd r g l i w) (hi : i + 4 ≤ l.length) :
    Calls Tryd.prog 55 #[rdI r] w fun e w' => e = .returned (.tuple #[.float .f32 (Lib.beNat ((l.drop i).take 4)), .nilIface]) ∧ w.grownBy w' (some r) ∧ Rd r g l (i + 4) w' := by
  have hne := h.ge (.cells #[] 0)
  have hC := fix_ok r g l i w.heap.size 4 _ _ _ (h.alloc (.cells #[.int .u8 0, .int .u8 0, .int .u8 0, .int .u8 0] 168)) (by decide) hi (heap_alloc_new w _) hne.1 hne.2 rfl
  have HC := Lib.hid hC
  have HI := Lib.hid (show 4 ≤ (l.drop i).length by rw [List.length_drop]; omega)
  have fb : ∀ W, (callFunc 78 #[.int .u32 (Lib.beNat ((l.drop i).take 4) : Nat)]).run Tryd.prog W = .ok (.value (.float .f32 (Lib.beNat ((l.drop i).take 4)))) W := fun _ => by kernel_rfl
  clear hC h hne hi
  go_enter Tryd.func55, Tryd.ntmps55
  go_wp2_with (go_at_call 94; go_loud (refine HC.out.mono ?_; rintro e_ w1 ⟨rfl, h1, h2, h3⟩; have H1 := Lib.hid h1; have H2 := Lib.hid h2; have HG := Lib.hid (Two.grown (grown_alloc (grown_refl (r := r) w) _) h3 (Nat.le_refl _)); clear h1 h2 h3))
  go_region_with (go_at_call 97; refine (get32_any w.heap.size (l.drop i) _ HI.out ?ha).mono ?_; (case ha => exact H2.out); rintro e_ w2 ⟨rfl, hb⟩; have HB := Lib.hid hb; clear hb)
  all_goals
    go_wp2
    go_ret2
    exact ⟨rfl, Lib.grownBy_below (grown_drewN HG.out 1) HB.out, (H1.out.drewN 1).below HB.out⟩
set_option maxHeartbeats 2000000 in
set_option maxRecDepth 100000 in
theorem decF32_bad (B : Nat) (pe pl : Addr) (r g : Nat) (l : List UInt8) (i : Nat) (w : World) (h : Rd r g l i w) (he : Env B pe pl w) (hBr : B ≤ r) (hi : ¬ i + 4 ≤ l.length) :
    Calls Tryd.prog 55 #[rdI r] w fun e w' => ∃ ev, e = .returned (.tuple #[.float .f32 0, ev]) ∧ Fell r g l w w' ev := by
  have hne := h.ge (.cells #[] 0)
  have hrw := h.lt
  have hC := fix_bad B pe pl r g l i w.heap.size 4 _ _ _ (h.alloc (.cells #[.int .u8 0, .int .u8 0, .int .u8 0, .int .u8 0] 168)) (he.below ((Below.refl B w).alloc (by omega) _)) hBr (by omega) (by decide) (by decide) hi (heap_alloc_new w _) hne.1 hne.2 rfl
  have HC := Lib.hid hC
  have HE := Lib.hid he
  have HR := Lib.hid (And.intro hBr hrw)
  clear hC h hne hi he hBr hrw
  go_enter Tryd.func55, Tryd.ntmps55
  go_wp2_with (go_at_call 94; go_loud (refine HC.out.mono ?_; rintro e_ w1 ⟨rfl, h1, h3⟩; have H1 := Lib.hid h1; have HG := Lib.hid (Two.grown (grown_alloc (grown_refl (r := r) w) _) h3 (Nat.le_refl _)); clear h1 h3))
  go_ret2
  exact ⟨errV pe, rfl, HG.out, (HE.out.below (grown_below HG.out (by have := HR.out; omega) HR.out.1)).errE, _, H1.out⟩
theorem decI32_ok (r g : Nat) (l : List UInt8) (i : Nat) (w : World) (h : Rd r g l i w) (hi : i + 4 ≤ l.length) :
    Calls Tryd.prog 52 #[rdI r] w fun e w' => e = .returned (.tuple #[.int .i32 (wrap32 (Lib.beNat ((l.drop i).take 4) : Nat)), .nilIface]) ∧ w.grownBy w' (some r) ∧ Rd r g l (i + 4) w' := by
  have HC := Lib.hid (decU32_ok r g l i w h hi)
  clear h hi
  go_enter Tryd.func52, Tryd.ntmps52
  go_wp2_with (go_at_call 58; go_loud (refine HC.out.mono ?_; rintro e_ w1 ⟨rfl, h1⟩; have H1 := Lib.hid h1; clear h1))
  go_ret2
  exact ⟨rfl, H1.out⟩
theorem decI32_bad (B : Nat) (pe pl : Addr) (r g : Nat) (l : List UInt8) (i : Nat) (w : World) (h : Rd r g l i w) (he : Env B pe pl w) (hBr : B ≤ r) (hi : ¬ i + 4 ≤ l.length) :
    Calls Tryd.prog 52 #[rdI r] w fun e w' => ∃ ev, e = .returned (.tuple #[.int .i32 0, ev]) ∧ Fell r g l w w' ev := by
  have HC := Lib.hid (decU32_bad B pe pl r g l i w h he hBr hi)
  clear h hi he hBr
  go_enter Tryd.func52, Tryd.ntmps52
  go_wp2_with (go_at_call 58; go_loud (refine HC.out.mono ?_; rintro e_ w1 ⟨ev, rfl, h1⟩; obtain ⟨a, s, rfl, h2⟩ : ∃ a s, ev = errV a ∧ Hid (w1.cell? a = some (.string s) ∧ s.data.toList ≠ []) := (by obtain ⟨a, s, e1, e2, e3⟩ := h1.2.1; exact ⟨a, s, e1, Lib.hid ⟨e2, e3⟩⟩); have H1 := Lib.hid h1; clear h1))
  go_ret2
  exact ⟨errV a, rfl, H1.out⟩
theorem decTime_ok (r g : Nat) (l : List UInt8) (i : Nat) (w : World) (h : Rd r g l i w) (hi : i + 8 ≤ l.length) :
    Calls Tryd.prog 51 #[rdI r] w fun e w' => e = .returned (.tuple #[.int .i64 (wrap64 (wrap64 (Lib.beNat ((l.drop i).take 8) : Nat) + -9223372036854775808)), .nilIface]) ∧ w.grownBy w' (some r) ∧ Rd r g l (i + 8) w' := by
  have HC := Lib.hid (decU64_ok r g l i w h hi)
  clear h hi
  go_enter Tryd.func51, Tryd.ntmps51
  go_wp2_with (go_at_call 59; go_loud (refine HC.out.mono ?_; rintro e_ w1 ⟨rfl, h1⟩; have H1 := Lib.hid h1; clear h1))
  go_ret2
  exact ⟨rfl, H1.out⟩
theorem decTime_bad (B : Nat) (pe pl : Addr) (r g : Nat) (l : List UInt8) (i : Nat) (w : World) (h : Rd r g l i w) (he : Env B pe pl w) (hBr : B ≤ r) (hi : ¬ i + 8 ≤ l.length) :
    Calls Tryd.prog 51 #[rdI r] w fun e w' => ∃ ev, e = .returned (.tuple #[.int .i64 0, ev]) ∧ Fell r g l w w' ev := by
  have HC := Lib.hid (decU64_bad B pe pl r g l i w h he hBr hi)
  clear h hi he hBr
  go_enter Tryd.func51, Tryd.ntmps51
  go_wp2_with (go_at_call 59; go_loud (refine HC.out.mono ?_; rintro e_ w1 ⟨ev, rfl, h1⟩; obtain ⟨a, s, rfl, h2⟩ : ∃ a s, ev = errV a ∧ Hid (w1.cell? a = some (.string s) ∧ s.data.toList ≠ []) := (by obtain ⟨a, s, e1, e2, e3⟩ := h1.2.1; exact ⟨a, s, e1, Lib.hid ⟨e2, e3⟩⟩); have H1 := Lib.hid h1; clear h1))
  go_ret2
  exact ⟨errV a, rfl, H1.out⟩
/-- DecodeVarInt. -/
theorem decVarI_ok (B : Nat) (pe pl : Addr) (r g : Nat) (l : List UInt8) (i v k : Nat) (w : World) (h : Rd r g l i w) (he : Env B pe pl w) (hBr : B ≤ r) (hR : vrd 0 0 (l.drop i) = some (v, k)) :
    Calls Tryd.prog 60 #[rdI r] w fun e w' => e = .returned (.tuple #[.int .i64 (wrap64 (v : Nat)), .nilIface]) ∧ w.grownBy w' (some r) ∧ Rd r g l (i + k) w' := by
  have HC := Lib.hid (decVar_any B pe pl r g l i w h he hBr _ hR)
  clear h hR he hBr
  go_enter Tryd.func60, Tryd.ntmps60
  go_wp2_with (go_at_call 61; go_loud (refine HC.out.mono ?_; rintro e_ w1 ⟨hg, ⟨v', k', hvk, rfl, h1⟩ | ⟨hn, _⟩⟩; rotate_left; exact absurd hn (by simp); obtain ⟨rfl, rfl⟩ : v = v' ∧ k = k' := (by simpa using hvk); have H1 := Lib.hid (And.intro hg h1); clear h1 hg hvk))
  go_ret2
  exact ⟨rfl, H1.out⟩
theorem decVarI_bad (B : Nat) (pe pl : Addr) (r g : Nat) (l : List UInt8) (i : Nat) (w : World) (h : Rd r g l i w) (he : Env B pe pl w) (hBr : B ≤ r) (hR : vrd 0 0 (l.drop i) = none) :
    Calls Tryd.prog 60 #[rdI r] w fun e w' => ∃ ev, e = .returned (.tuple #[.int .i64 0, ev]) ∧ Fell r g l w w' ev := by
  have HC := Lib.hid (decVar_any B pe pl r g l i w h he hBr _ hR)
  clear h hR he hBr
  go_enter Tryd.func60, Tryd.ntmps60
  go_wp2_with (go_at_call 61; go_loud (refine HC.out.mono ?_; rintro e_ w1 ⟨hg, ⟨v', k', hvk, rfl, h1⟩ | ⟨_, ev, i', rfl, h1, h2⟩⟩; exact absurd hvk (by simp); obtain ⟨a, s, rfl, h3⟩ : ∃ a s, ev = errV a ∧ Hid (w1.cell? a = some (.string s) ∧ s.data.toList ≠ []) := (by obtain ⟨a, s, e1, e2, e3⟩ := h1; exact ⟨a, s, e1, Lib.hid ⟨e2, e3⟩⟩); have H1 := Lib.hid (And.intro hg (And.intro h1 h2)); clear h1 h2 hg))
  go_ret2
  exact ⟨errV a, rfl, H1.out.1, H1.out.2.1, i', H1.out.2.2⟩
end Go.Proofs.YtgdbeiadlgkedaaDoor
