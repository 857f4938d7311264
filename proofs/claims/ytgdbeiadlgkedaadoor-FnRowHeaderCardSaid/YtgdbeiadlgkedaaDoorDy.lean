/- Contracts: a bool and a byte that are read. -/
import Derived.Test.YtgdbeiadlgkedaaDoorDx
import Derived.LaidEql
namespace Go.Proofs.YtgdbeiadlgkedaaDoor
open Go.RowKit
set_option linter.unusedVariables false
set_option linter.unusedSimpArgs false

theorem compES : (Tryd.prog.info? 182).map (·.comparable) = some true := by kernel_rfl
theorem sizeES : (Tryd.prog.info? 184).map (·.size) = some 1 := by kernel_rfl
theorem eql_err (a : Addr) : ∀ W : World, (binOp .eql 82 (errV a) (errV a)).run Tryd.prog W = .ok (.bool true) W := by
  intro W
  obtain ⟨i, hi, hcmp⟩ := Option.map_eq_some_iff.1 compES
  obtain ⟨j, hj, _⟩ := Option.map_eq_some_iff.1 sizeES
  exact run_eql_iface_ptr_same (w := W) a Tryd.underlying82 Tryd.underlying182 hi hcmp hj
set_option maxHeartbeats 2000000 in
set_option maxRecDepth 100000 in
theorem decBool_eof (B : Nat) (pe pl : Addr) (r g : Nat) (l : List UInt8) (i : Nat) (w : World) (h : Rd r g l i w) (he : Env B pe pl w) (hBr : B ≤ r) (hi : ¬ i + 1 ≤ l.length) :
    Calls Tryd.prog 46 #[rdI r] w fun e w' => ∃ ev, e = .returned (.tuple #[.bool false, ev]) ∧ Fell r g l w w' ev := by
  have hne := h.ge (.cells #[] 0)
  have hrw := h.lt
  have hC := fix_bad B pe pl r g l i w.heap.size 1 _ _ _ (h.alloc (.cells #[.int .u8 0] 161)) (he.below ((Below.refl B w).alloc (by omega) _)) hBr (by omega) (by decide) (by decide) hi (heap_alloc_new w _) hne.1 hne.2 rfl
  have HC := Lib.hid hC
  have HE := Lib.hid he
  have HR := Lib.hid (And.intro hBr hrw)
  have eq1 := eql_err pe
  clear hC h hne hi he hBr hrw
  go_enter Tryd.func46, Tryd.ntmps46
  go_wp2_with (go_at_call 94; go_loud (refine HC.out.mono ?_; rintro e_ w1 ⟨rfl, h1, h3⟩; have H1 := Lib.hid h1; have HG := Lib.hid (Two.grown (grown_alloc (grown_refl (r := r) w) _) h3 (Nat.le_refl _)); have HE1 := Lib.hid (HE.out.below (grown_below HG.out (by have := HR.out; omega) HR.out.1)); have x0 := HE1.out.eof; clear h1 h3))
  go_ret2
  exact ⟨errV pe, rfl, HG.out, HE1.out.errE, _, H1.out⟩
set_option maxHeartbeats 2000000 in
set_option maxRecDepth 100000 in
theorem decByte_eof (B : Nat) (pe pl : Addr) (r g : Nat) (l : List UInt8) (i : Nat) (w : World) (h : Rd r g l i w) (he : Env B pe pl w) (hBr : B ≤ r) (hi : ¬ i + 1 ≤ l.length) :
    Calls Tryd.prog 47 #[rdI r] w fun e w' => ∃ ev, e = .returned (.tuple #[.int .u8 0, ev]) ∧ Fell r g l w w' ev := by
  have hne := h.ge (.cells #[] 0)
  have hrw := h.lt
  have hC := fix_bad B pe pl r g l i w.heap.size 1 _ _ _ (h.alloc (.cells #[.int .u8 0] 161)) (he.below ((Below.refl B w).alloc (by omega) _)) hBr (by omega) (by decide) (by decide) hi (heap_alloc_new w _) hne.1 hne.2 rfl
  have HC := Lib.hid hC
  have HE := Lib.hid he
  have HR := Lib.hid (And.intro hBr hrw)
  have eq1 := eql_err pe
  clear hC h hne hi he hBr hrw
  go_enter Tryd.func47, Tryd.ntmps47
  go_wp2_with (go_at_call 94; go_loud (refine HC.out.mono ?_; rintro e_ w1 ⟨rfl, h1, h3⟩; have H1 := Lib.hid h1; have HG := Lib.hid (Two.grown (grown_alloc (grown_refl (r := r) w) _) h3 (Nat.le_refl _)); have HE1 := Lib.hid (HE.out.below (grown_below HG.out (by have := HR.out; omega) HR.out.1)); have x0 := HE1.out.eof; clear h1 h3))
  go_ret2
  exact ⟨errV pe, rfl, HG.out, HE1.out.errE, _, H1.out⟩
set_option maxHeartbeats 2000000 in
set_option maxRecDepth 100000 in
theorem decByte_ok (r g : Nat) (l : List UInt8) (i : Nat) (x : UInt8) (w : World) (h : Rd r g l i w) (hx : l[i]? = some x) :
    Calls Tryd.prog 47 #[rdI r] w fun e w' => e = .returned (.tuple #[.int .u8 x.toNat, .nilIface]) ∧ w.grownBy w' (some r) ∧ Rd r g l (i + 1) w' := by
  have hne := h.ge (.cells #[] 0)
  have hi : i + 1 ≤ l.length := (List.getElem?_eq_some_iff.1 hx).1
  have hC := fix_ok r g l i w.heap.size 1 _ _ _ (h.alloc (.cells #[.int .u8 0] 161)) (by decide) hi (heap_alloc_new w _) hne.1 hne.2 rfl
  have HC := Lib.hid hC
  have HX := Lib.hid (show ((l.drop i).take 1)[0]? = some x by rw [List.getElem?_take_of_lt (by decide), List.getElem?_drop]; exact hx)
  clear hC h hne hi hx
  go_enter Tryd.func47, Tryd.ntmps47
  go_wp2_with (first | (go_at_call 94; go_loud (refine HC.out.mono ?_; rintro e_ w1 ⟨rfl, h1, h2, h3⟩; have H1 := Lib.hid h1; have x0 : w1.cell? ⟨w.heap.size, 0, none⟩ = some (.int .u8 x.toNat) := (h2.get HX.out).trans rfl; have HG := Lib.hid (Two.grown (grown_alloc (grown_refl (r := r) w) _) h3 (Nat.le_refl _)); clear h1 h2 h3)))
  go_ret2
  exact ⟨rfl, HG.out, H1.out⟩
set_option maxHeartbeats 2000000 in
set_option maxRecDepth 100000 in
theorem decBool_0 (r g : Nat) (l : List UInt8) (i : Nat) (x : UInt8) (w : World) (h : Rd r g l i w) (hx : l[i]? = some x) (h0 : x = 0) :
    Calls Tryd.prog 46 #[rdI r] w fun e w' => e = .returned (.tuple #[.bool false, .nilIface]) ∧ w.grownBy w' (some r) ∧ Rd r g l (i + 1) w' := by
  have hne := h.ge (.cells #[] 0)
  have hi : i + 1 ≤ l.length := (List.getElem?_eq_some_iff.1 hx).1
  have hC := fix_ok r g l i w.heap.size 1 _ _ _ (h.alloc (.cells #[.int .u8 0] 161)) (by decide) hi (heap_alloc_new w _) hne.1 hne.2 rfl
  have HC := Lib.hid hC
  have HX := Lib.hid (show ((l.drop i).take 1)[0]? = some x by rw [List.getElem?_take_of_lt (by decide), List.getElem?_drop]; exact hx)
  subst h0
  clear hC h hne hi hx
  go_enter Tryd.func46, Tryd.ntmps46
  go_wp2_with (first | (go_at_call 94; go_loud (refine HC.out.mono ?_; rintro e_ w1 ⟨rfl, h1, h2, h3⟩; have H1 := Lib.hid h1; have x0 : w1.cell? ⟨w.heap.size, 0, none⟩ = some (.int .u8 0) := (h2.get HX.out).trans rfl; have HG := Lib.hid (Two.grown (grown_alloc (grown_refl (r := r) w) _) h3 (Nat.le_refl _)); clear h1 h2 h3)))
  go_ret2
  exact ⟨rfl, HG.out, H1.out⟩
set_option maxHeartbeats 2000000 in
set_option maxRecDepth 100000 in
theorem decBool_1 (r g : Nat) (l : List UInt8) (i : Nat) (x : UInt8) (w : World) (h : Rd r g l i w) (hx : l[i]? = some x) (h0 : x = 1) :
    Calls Tryd.prog 46 #[rdI r] w fun e w' => e = .returned (.tuple #[.bool true, .nilIface]) ∧ w.grownBy w' (some r) ∧ Rd r g l (i + 1) w' := by
  have hne := h.ge (.cells #[] 0)
  have hi : i + 1 ≤ l.length := (List.getElem?_eq_some_iff.1 hx).1
  have hC := fix_ok r g l i w.heap.size 1 _ _ _ (h.alloc (.cells #[.int .u8 0] 161)) (by decide) hi (heap_alloc_new w _) hne.1 hne.2 rfl
  have HC := Lib.hid hC
  have HX := Lib.hid (show ((l.drop i).take 1)[0]? = some x by rw [List.getElem?_take_of_lt (by decide), List.getElem?_drop]; exact hx)
  subst h0
  clear hC h hne hi hx
  go_enter Tryd.func46, Tryd.ntmps46
  go_wp2_with (first | (go_at_call 94; go_loud (refine HC.out.mono ?_; rintro e_ w1 ⟨rfl, h1, h2, h3⟩; have H1 := Lib.hid h1; have x0 : w1.cell? ⟨w.heap.size, 0, none⟩ = some (.int .u8 1) := (h2.get HX.out).trans rfl; have HG := Lib.hid (Two.grown (grown_alloc (grown_refl (r := r) w) _) h3 (Nat.le_refl _)); clear h1 h2 h3)))
  go_ret2
  exact ⟨rfl, HG.out, H1.out⟩
set_option maxHeartbeats 2000000 in
set_option maxRecDepth 100000 in
theorem decBool_bad (r g : Nat) (l : List UInt8) (i : Nat) (x : UInt8) (w : World) (h : Rd r g l i w) (hx : l[i]? = some x) (h0 : x ≠ 0) (h1 : x ≠ 1) :
    Calls Tryd.prog 46 #[rdI r] w fun e w' => ∃ ev, e = .returned (.tuple #[.bool false, ev]) ∧ Fell r g l w w' ev := by
  have hne := h.ge (.cells #[] 0)
  have hi : i + 1 ≤ l.length := (List.getElem?_eq_some_iff.1 hx).1
  have hC := fix_ok r g l i w.heap.size 1 _ _ _ (h.alloc (.cells #[.int .u8 0] 161)) (by decide) hi (heap_alloc_new w _) hne.1 hne.2 rfl
  have HC := Lib.hid hC
  have HX := Lib.hid (show ((l.drop i).take 1)[0]? = some x by rw [List.getElem?_take_of_lt (by decide), List.getElem?_drop]; exact hx)
  obtain ⟨n, hn⟩ : ∃ n, Hid (x.toNat = n) := ⟨_, Lib.hid rfl⟩
  have q0 : ((n : Int) == 0) = false := beq_eq_false_iff_ne.mpr (fun e => h0 (UInt8.toNat_inj.1 (by rw [hn.out]; exact Int.ofNat.inj e)))
  have q1 : ((n : Int) == 1) = false := beq_eq_false_iff_ne.mpr (fun e => h1 (UInt8.toNat_inj.1 (by rw [hn.out]; exact Int.ofNat.inj e)))
  clear h0 h1
  clear hC h hne hi hx
  go_enter Tryd.func46, Tryd.ntmps46
  go_wp2_with (first | (go_at_call 94; go_loud (refine HC.out.mono ?_; rintro e_ w1 ⟨rfl, h1, h2, h3⟩; have H1 := Lib.hid h1; have x0 : w1.cell? ⟨w.heap.size, 0, none⟩ = some (.int .u8 n) := (h2.get HX.out).trans (by rw [hn.out]); have HG := Lib.hid (Two.grown (grown_alloc (grown_refl (r := r) w) _) h3 (Nat.le_refl _)); clear h1 h2 h3)) | (go_at_call 95; refine (errNew_any _ _).mono ?_; rintro e_ w2 ⟨rfl, hw2⟩; have HW2 := Lib.hid hw2; clear hw2))
  go_ret2
  exact ⟨_, rfl, by rw [HW2.out]; exact grown_alloc HG.out _, ⟨_, _, rfl, by rw [HW2.out]; exact (blk_cell (heap_alloc_new w1 _) 0).trans rfl, by decide⟩, _, by rw [HW2.out]; exact H1.out.alloc _⟩
end Go.Proofs.YtgdbeiadlgkedaaDoor
