/- Contracts: a row's header is read. -/
import Derived.Test.YtgdbeiadlgkedaaDoorL13
namespace Go.Proofs.YtgdbeiadlgkedaaDoor
open Go.RowKit
set_option linter.unusedVariables false
set_option linter.unusedSimpArgs false

set_option maxHeartbeats 4000000 in
set_option maxRecDepth 100000 in
theorem rrh_A (B : Nat) (pe pl : Addr) (r g : Nat) (l : List UInt8) (w : World) (h : Rd r g l 0 w) (he : Env B pe pl w) (hBr : B ≤ r) (hB : B ≤ w.heap.size) (h1 : vrd 0 0 l = none) :
    Calls Tryd.prog 90 #[rdI r] w fun e w' => ∃ (x : Int) (ev : Value), e = .returned (.tuple #[.int .i64 x, .slice none 0 0, ev]) ∧ Fell r g l w w' ev := by
  have HE := Lib.hid (And.intro he (And.intro hBr hB))
  have HC := Lib.hid (decVarI_bad B pe pl r g l 0 w h he hBr (by rw [List.drop_zero]; exact h1))
  clear h he hBr hB h1
  go_enter Tryd.func90, Tryd.ntmps90
  go_wp2_with (go_at_call 60; go_loud (refine HC.out.mono ?_; rintro e_ w1 ⟨ev, rfl, h1⟩; obtain ⟨a, s, rfl, h2⟩ : ∃ a s, ev = errV a ∧ Hid (w1.cell? a = some (.string s) ∧ s.data.toList ≠ []) := (by obtain ⟨a, s, e1, e2, e3⟩ := h1.2.1; exact ⟨a, s, e1, Lib.hid ⟨e2, e3⟩⟩); have H1 := Lib.hid h1; clear h1))
  go_ret3
  exact ⟨0, errV a, rfl, H1.out⟩
set_option maxHeartbeats 4000000 in
set_option maxRecDepth 100000 in
theorem rrh_B (B : Nat) (pe pl : Addr) (r g : Nat) (l : List UInt8) (w : World) (h : Rd r g l 0 w) (he : Env B pe pl w) (hBr : B ≤ r) (hB : B ≤ w.heap.size) (v k : Nat) (h1 : vrd 0 0 l = some (v, k)) (h2 : vrd 0 0 (l.drop k) = none) :
    Calls Tryd.prog 90 #[rdI r] w fun e w' => ∃ (x : Int) (ev : Value), e = .returned (.tuple #[.int .i64 x, .slice none 0 0, ev]) ∧ Fell r g l w w' ev := by
  have HE := Lib.hid (And.intro he (And.intro hBr hB))
  have HC := Lib.hid (decVarI_ok B pe pl r g l 0 v k w h he hBr (by rw [List.drop_zero]; exact h1))
  rw [Nat.zero_add] at HC
  have HV2 := Lib.hid h2
  clear h he hBr hB h1 h2
  go_enter Tryd.func90, Tryd.ntmps90
  go_wp2_with (go_at_call 60; (first | ((with_reducible refine HC.out.mono ?_); rintro e_ w1 ⟨rfl, h1, h2⟩; have H1 := Lib.hid h1; have H2 := Lib.hid h2; clear h1 h2) | ((with_reducible refine (decVarI_bad B pe pl r g l k w1 H2.out (HE.out.1.below (grown_below H1.out HE.out.2.2 HE.out.2.1)) HE.out.2.1 HV2.out).mono ?_); rintro e_ w2 ⟨ev, rfl, h1⟩; obtain ⟨a, s, rfl, h2⟩ : ∃ a s, ev = errV a ∧ Hid (w2.cell? a = some (.string s) ∧ s.data.toList ≠ []) := (by obtain ⟨a, s, e1, e2, e3⟩ := h1.2.1; exact ⟨a, s, e1, Lib.hid ⟨e2, e3⟩⟩); have H3 := Lib.hid h1; clear h1)))
  go_ret3
  exact ⟨_, errV a, rfl, grown_trans H1.out H3.out.1, H3.out.2.1, H3.out.2.2⟩
set_option maxHeartbeats 4000000 in
set_option maxRecDepth 100000 in
theorem rrh_D1 (B : Nat) (pe pl : Addr) (r g : Nat) (l : List UInt8) (w : World) (h : Rd r g l 0 w) (he : Env B pe pl w) (hBr : B ≤ r) (hB : B ≤ w.heap.size) (v k v2 k2 : Nat) (h1 : vrd 0 0 l = some (v, k)) (h2 : vrd 0 0 (l.drop k) = some (v2, k2)) (hv : ¬ 1000000 < v) (hv2 : ¬ 1000000 < v2) (hd : v < v2) :
    Calls Tryd.prog 90 #[rdI r] w fun e w' => ∃ (x : Int) (ev : Value), e = .returned (.tuple #[.int .i64 x, .slice none 0 0, ev]) ∧ Fell r g l w w' ev := by
  have HE := Lib.hid (And.intro he (And.intro hBr hB))
  have HC := Lib.hid (decVarI_ok B pe pl r g l 0 v k w h he hBr (by rw [List.drop_zero]; exact h1))
  rw [Nat.zero_add] at HC
  have HV2 := Lib.hid h2
  have q6 := wid (a := v2) (Nat.le_trans (elim_le hv2) (by decide))
  have q7 := wid (a := v) (Nat.le_trans (elim_le hv) (by decide))
  have hz : v2 ≠ 0 := Nat.ne_of_gt (Nat.lt_of_le_of_lt (Nat.zero_le _) hd)
  have z0 : ((v2 : Int) == 0) = false := by rw [beq_eq_false_iff_ne]; exact fun e => hz (Int.natCast_eq_zero.1 e)
  have q3 : (v : Int) < (v2 : Int) := Int.ofNat_lt.2 hd
  clear h he hBr hB h1 h2 hv hv2 hd hz
  go_enter Tryd.func90, Tryd.ntmps90
  go_wp2_with (first
    | (go_at_call 60; (first | ((with_reducible refine HC.out.mono ?_); rintro e_ w1 ⟨rfl, h1, h2⟩; have H1 := Lib.hid h1; have H2 := Lib.hid h2; clear h1 h2) | ((with_reducible refine (decVarI_ok B pe pl r g l k v2 k2 w1 H2.out (HE.out.1.below (grown_below H1.out HE.out.2.2 HE.out.2.1)) HE.out.2.1 HV2.out).mono ?_); rintro e_ w2 ⟨rfl, h1, h2⟩; have H3 := Lib.hid (grown_trans H1.out h1); have H4 := Lib.hid h2; clear h1 h2)))
    | (go_at_call 95; go_loud (refine (errNew_any _ _).mono ?_; rintro e_ w3 ⟨rfl, rfl⟩)))
  go_ret3
  exact ⟨_, _, rfl, err_new _ (by simp) H3.out H4.out⟩
set_option maxHeartbeats 4000000 in
set_option maxRecDepth 100000 in
theorem rrh_D2 (B : Nat) (pe pl : Addr) (r g : Nat) (l : List UInt8) (w : World) (h : Rd r g l 0 w) (he : Env B pe pl w) (hBr : B ≤ r) (hB : B ≤ w.heap.size) (v k v2 k2 : Nat) (h1 : vrd 0 0 l = some (v, k)) (h2 : vrd 0 0 (l.drop k) = some (v2, k2)) (hv : ¬ 1000000 < v) (hv2 : ¬ 1000000 < v2) (hd : ¬ v < v2) (hz : v2 ≠ 0) (hl : ¬ k + k2 + v2 ≤ l.length) :
    Calls Tryd.prog 90 #[rdI r] w fun e w' => ∃ (x : Int) (ev : Value), e = .returned (.tuple #[.int .i64 x, .slice none 0 0, ev]) ∧ Fell r g l w w' ev := by
  have HE := Lib.hid (And.intro he (And.intro hBr hB))
  have HC := Lib.hid (decVarI_ok B pe pl r g l 0 v k w h he hBr (by rw [List.drop_zero]; exact h1))
  rw [Nat.zero_add] at HC
  have HV2 := Lib.hid h2
  have q6 := wid (a := v2) (Nat.le_trans (elim_le hv2) (by decide))
  have q7 := wid (a := v) (Nat.le_trans (elim_le hv) (by decide))
  have z0 : ((v2 : Int) == 0) = false := by rw [beq_eq_false_iff_ne]; exact fun e => hz (Int.natCast_eq_zero.1 e)
  have q3 : ¬ (v : Int) < (v2 : Int) := fun e => hd (Int.ofNat_lt.1 e)
  have km := mk_bytes v2 (elim_le hv2)
  have HN := Lib.hid (And.intro hz (And.intro hl (elim_le hv2)))
  clear h he hBr hB h1 h2 hv hv2 hd hz hl
  go_enter Tryd.func90, Tryd.ntmps90
  go_wp2_with (first
    | (go_at_call 60; (first | ((with_reducible refine HC.out.mono ?_); rintro e_ w1 ⟨rfl, h1, h2⟩; have H1 := Lib.hid h1; have H2 := Lib.hid h2; clear h1 h2) | ((with_reducible refine (decVarI_ok B pe pl r g l k v2 k2 w1 H2.out (HE.out.1.below (grown_below H1.out HE.out.2.2 HE.out.2.1)) HE.out.2.1 HV2.out).mono ?_); rintro e_ w2 ⟨rfl, h1, h2⟩; have H3 := Lib.hid (grown_trans H1.out h1); have H4 := Lib.hid h2; clear h1 h2)))
    | (go_at_call 94; go_loud (refine (fix_bad B pe pl r g l (k + k2) w2.heap.size v2 (madeCells #[.int .u8 0] (v2 * 1)) 5 (w2.alloc (mkz v2)) (H4.out.alloc _) (HE.out.1.below ((grown_below H3.out HE.out.2.2 HE.out.2.1).alloc (Nat.le_trans HE.out.2.2 H3.out.size) _)) HE.out.2.1 (Nat.le_trans HE.out.2.2 H3.out.size) (Nat.pos_of_ne_zero HN.out.1) (Nat.le_trans HN.out.2.2 (by decide)) HN.out.2.1 (heap_alloc_new w2 _) (H4.out.ge (mkz v2)).1 (H4.out.ge (mkz v2)).2 (mkz_size v2)).mono ?_; rintro e_ w3 ⟨rfl, h1, h2⟩; have H5 := Lib.hid h1; have H6 := Lib.hid (Two.grown (grown_alloc H3.out _) h2 H3.out.size); clear h1 h2)))
  go_ret3
  exact ⟨_, _, rfl, H6.out, (HE.out.1.below (grown_below H6.out HE.out.2.2 HE.out.2.1)).errE, _, H5.out⟩
set_option maxHeartbeats 4000000 in
set_option maxRecDepth 100000 in
theorem rrh_E0 (B : Nat) (pe pl : Addr) (r g : Nat) (l : List UInt8) (w : World) (h : Rd r g l 0 w) (he : Env B pe pl w) (hBr : B ≤ r) (hB : B ≤ w.heap.size) (v k k2 : Nat) (h1 : vrd 0 0 l = some (v, k)) (h2 : vrd 0 0 (l.drop k) = some (0, k2)) (hv : ¬ 1000000 < v) :
    Calls Tryd.prog 90 #[rdI r] w fun e w' => e = .returned (.tuple #[.int .i64 v, .slice none 0 0, .nilIface]) ∧ w.grownBy w' (some r) ∧ Rd r g l (k + k2) w' := by
  have HE := Lib.hid (And.intro he (And.intro hBr hB))
  have HC := Lib.hid (decVarI_ok B pe pl r g l 0 v k w h he hBr (by rw [List.drop_zero]; exact h1))
  rw [Nat.zero_add] at HC
  have HV2 := Lib.hid h2
  have q6 : wrap64 0 = 0 := by unfold wrap64; omega
  have q7 := wid (a := v) (Nat.le_trans (elim_le hv) (by decide))
  clear h he hBr hB h1 h2 hv
  go_enter Tryd.func90, Tryd.ntmps90
  go_wp2_with (go_at_call 60; (first | ((with_reducible refine HC.out.mono ?_); rintro e_ w1 ⟨rfl, h1, h2⟩; have H1 := Lib.hid h1; have H2 := Lib.hid h2; clear h1 h2) | ((with_reducible refine (decVarI_ok B pe pl r g l k 0 k2 w1 H2.out (HE.out.1.below (grown_below H1.out HE.out.2.2 HE.out.2.1)) HE.out.2.1 HV2.out).mono ?_); rintro e_ w2 ⟨rfl, h1, h2⟩; have H3 := Lib.hid (grown_trans H1.out h1); have H4 := Lib.hid h2; clear h1 h2)))
  go_ret3
  exact ⟨rfl, H3.out, H4.out⟩
set_option maxHeartbeats 4000000 in
set_option maxRecDepth 100000 in
theorem rrh_E1 (B : Nat) (pe pl : Addr) (r g : Nat) (l : List UInt8) (w : World) (h : Rd r g l 0 w) (he : Env B pe pl w) (hBr : B ≤ r) (hB : B ≤ w.heap.size) (v k v2 k2 : Nat) (h1 : vrd 0 0 l = some (v, k)) (h2 : vrd 0 0 (l.drop k) = some (v2, k2)) (hv : ¬ 1000000 < v) (hv2 : ¬ 1000000 < v2) (hd : ¬ v < v2) (hz : v2 ≠ 0) (hl : k + k2 + v2 ≤ l.length) :
    Calls Tryd.prog 90 #[rdI r] w fun e w' => ∃ d : Nat, e = .returned (.tuple #[.int .i64 v, .slice (some ⟨d, 0, none⟩) v2 v2, .nilIface]) ∧ At w' ⟨d, 0, none⟩ ((l.drop (k + k2)).take v2) ∧ w.grownBy w' (some r) ∧ Rd r g l (k + k2 + v2) w' := by
  have HE := Lib.hid (And.intro he (And.intro hBr hB))
  have HC := Lib.hid (decVarI_ok B pe pl r g l 0 v k w h he hBr (by rw [List.drop_zero]; exact h1))
  rw [Nat.zero_add] at HC
  have HV2 := Lib.hid h2
  have q6 := wid (a := v2) (Nat.le_trans (elim_le hv2) (by decide))
  have q7 := wid (a := v) (Nat.le_trans (elim_le hv) (by decide))
  have z0 : ((v2 : Int) == 0) = false := by rw [beq_eq_false_iff_ne]; exact fun e => hz (Int.natCast_eq_zero.1 e)
  have q3 : ¬ (v : Int) < (v2 : Int) := fun e => hd (Int.ofNat_lt.1 e)
  have km := mk_bytes v2 (elim_le hv2)
  have HN := Lib.hid (And.intro hz (And.intro hl (elim_le hv2)))
  clear h he hBr hB h1 h2 hv hv2 hd hz hl
  go_enter Tryd.func90, Tryd.ntmps90
  go_wp2_with (first
    | (go_at_call 60; (first | ((with_reducible refine HC.out.mono ?_); rintro e_ w1 ⟨rfl, h1, h2⟩; have H1 := Lib.hid h1; have H2 := Lib.hid h2; clear h1 h2) | ((with_reducible refine (decVarI_ok B pe pl r g l k v2 k2 w1 H2.out (HE.out.1.below (grown_below H1.out HE.out.2.2 HE.out.2.1)) HE.out.2.1 HV2.out).mono ?_); rintro e_ w2 ⟨rfl, h1, h2⟩; have H3 := Lib.hid (grown_trans H1.out h1); have H4 := Lib.hid h2; clear h1 h2)))
    | (go_at_call 94; go_loud (refine (fix_ok r g l (k + k2) w2.heap.size v2 (madeCells #[.int .u8 0] (v2 * 1)) 5 (w2.alloc (mkz v2)) (H4.out.alloc _) (Nat.pos_of_ne_zero HN.out.1) HN.out.2.1 (heap_alloc_new w2 _) (H4.out.ge (mkz v2)).1 (H4.out.ge (mkz v2)).2 (mkz_size v2)).mono ?_; rintro e_ w3 ⟨rfl, h1, h3, h2⟩; have H5 := Lib.hid h1; have H7 := Lib.hid h3; have H6 := Lib.hid (Two.grown (grown_alloc H3.out _) h2 H3.out.size); clear h1 h2 h3)))
  go_ret3
  exact ⟨_, rfl, H7.out, H6.out, H5.out⟩
end Go.Proofs.YtgdbeiadlgkedaaDoor
