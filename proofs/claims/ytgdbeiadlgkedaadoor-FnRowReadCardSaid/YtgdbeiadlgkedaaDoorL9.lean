/- Contracts: a row's simple header, written and read. -/
import Derived.Test.YtgdbeiadlgkedaaDoorL8
namespace Go.Proofs.YtgdbeiadlgkedaaDoor
open Go.RowKit
open Go.Joins (below_bytesWorld)
set_option linter.unusedVariables false
set_option linter.unusedSimpArgs false

def shead (n : Nat) : List UInt8 := Lib.uvarint n ++ Lib.uvarint 0
theorem u64of_small (n : Nat) (h : n ≤ 1000000) : u64of (n : Int) = n := by unfold u64of; omega
set_option maxHeartbeats 4000000 in
set_option maxRecDepth 100000 in
theorem wsh_any (B b n : Nat) (w : World) (h : Bf B b [] w) (hn : n ≤ 1000000) :
    Calls Tryd.prog 91 #[.int .i64 n, bfI b] w fun e w' => e = .returned .nilIface ∧ Bf B b (shead n) w' ∧ Below B w w' := by
  have HC := Lib.hid (encVarI_any B b (n : Int) [] w h (by decide))
  rw [u64of_small n hn, List.nil_append] at HC
  have HN := Lib.hid (Lib.uvarint_length64 (x := n) (by omega))
  clear h hn
  go_enter Tryd.func91, Tryd.ntmps91
  go_wp2_with (go_at_call 82; (first
    | ((with_reducible refine HC.out.mono ?_); rintro e_ w1 ⟨rfl, h1, h2, _⟩; have H1 := Lib.hid h1; have H2 := Lib.hid h2; clear h1 h2)
    | ((with_reducible refine (encVarI_any B b 0 _ w1 H1.out (by have := HN.out; omega)).mono ?_); rintro e_ w2 ⟨rfl, h1, h2, _⟩; have H3 := Lib.hid h1; have H4 := Lib.hid (H2.out.trans h2); clear h1 h2)))
  go_ret
  exact ⟨rfl, H3.out, H4.out⟩
theorem enc_below1 {w w2 w3 : World} {o : Obj} {n : Nat} (h : Below w.heap.size (w.alloc o) w2) (h3 : w3 = w2.drewN n) : Below w.heap.size w w3 := by
  subst h3
  have h0 : Below w.heap.size w (w.alloc o) := (Below.refl _ w).alloc (Nat.le_refl _) _
  have h1 := h0.trans h
  exact ⟨h1.os, h1.tape, h1.output, h1.size, h1.block⟩
set_option maxHeartbeats 4000000 in
set_option maxRecDepth 100000 in
theorem simpleHeader_any (n : Nat) (w : World) (hn : n ≤ 1000000) :
    Calls Tryd.prog 41 #[.int .i64 n] w fun e w' => e = .returned (.tuple #[.string ⟨(shead n).toArray⟩, .string ⟨#[]⟩]) ∧ Below w.heap.size w w' := by
  have HC := Lib.hid (wsh_any _ _ n _ (fresh_Bf w) hn)
  clear hn
  go_enter Tryd.func41, Tryd.ntmps41
  go_wp2_with (first
    | (go_at_call 91; go_loud (refine HC.out.mono ?_; rintro e_ w1 ⟨rfl, h1, h2⟩; have H1 := Lib.hid h1; have H2 := Lib.hid h2; clear h1 h2))
    | (go_at_call 84; refine (string_any _ _ _ _ H1.out).mono ?_; rintro e_ w2 ⟨rfl, q2, hq⟩; have HQ := Lib.hid (enc_below1 H2.out hq); clear hq)
    | (go_at_call 63; refine (word_nil _).mono ?_; rintro e_ w3 ⟨rfl, rfl⟩))
  go_ret2
  exact ⟨rfl, HQ.out⟩
/-- What a simple header's reader answers. -/
def rsh (n : Int) (l : List UInt8) : Option Nat :=
  match vrd 0 0 l with
  | none => none
  | some (v, k) => if wrap64 (v : Nat) = n then (match vrd 0 0 (l.drop k) with
    | none => none
    | some (v2, k2) => if wrap64 (v2 : Nat) = 0 then some (k + k2) else none) else none
theorem err_new {r g i : Nat} {l : List UInt8} {w w1 : World} (s : ByteArray) (hs : s.data.toList ≠ []) (hg : w.grownBy w1 (some r)) (hr : Rd r g l i w1) :
    Fell r g l w (w1.alloc (.cells #[.string s] 184)) (.iface 182 (.pointer (some ⟨w1.heap.size, 0, none⟩))) :=
  ⟨grown_alloc hg _, ⟨_, s, rfl, (blk_cell (heap_alloc_new w1 _) 0).trans rfl, hs⟩, i, hr.alloc _⟩
set_option maxHeartbeats 4000000 in
set_option maxRecDepth 100000 in
theorem readSimple_any (B : Nat) (pe pl : Addr) (r g : Nat) (n : Int) (l : List UInt8) (w : World) (h : Rd r g l 0 w) (he : Env B pe pl w) (hBr : B ≤ r) (hB : B ≤ w.heap.size) (R : Option Nat) (hR : rsh n l = R) :
    Calls Tryd.prog 89 #[.int .i64 n, rdI r] w fun e w' => (∃ k, R = some k ∧ e = .returned .nilIface ∧ w.grownBy w' (some r) ∧ Rd r g l k w') ∨ (R = none ∧ ∃ ev, e = .returned ev ∧ Fell r g l w w' ev) := by
  have HE := Lib.hid (And.intro he (And.intro hBr hB))
  unfold rsh at hR
  cases hv : vrd 0 0 l with
  | none =>
    simp only [hv] at hR
    have HC := Lib.hid (decVarI_bad B pe pl r g l 0 w h he hBr (by rw [List.drop_zero]; exact hv))
    have HR := Lib.hid hR
    clear hR h he hBr hB hv
    go_enter Tryd.func89, Tryd.ntmps89
    go_wp2_with (first
      | (go_at_call 60; go_loud (refine HC.out.mono ?_; rintro e_ w1 ⟨ev, rfl, h1⟩; obtain ⟨a, s, rfl, h2⟩ : ∃ a s, ev = errV a ∧ Hid (w1.cell? a = some (.string s) ∧ s.data.toList ≠ []) := (by obtain ⟨a, s, e1, e2, e3⟩ := h1.2.1; exact ⟨a, s, e1, Lib.hid ⟨e2, e3⟩⟩); have H1 := Lib.hid h1; clear h1))
      | (go_at_call 95; go_loud (refine (errNew_any _ _).mono ?_; rintro e_ w2 ⟨rfl, rfl⟩)))
    go_ret
    obtain ⟨hg, _, i', hrd⟩ := H1.out
    exact .inr ⟨HR.out.symm, _, rfl, err_new _ (by simp) hg hrd⟩
  | some p =>
    obtain ⟨v, k⟩ := p
    simp only [hv] at hR
    have HC := Lib.hid (decVarI_ok B pe pl r g l 0 v k w h he hBr (by rw [List.drop_zero]; exact hv))
    rw [Nat.zero_add] at HC
    by_cases hvn : wrap64 (v : Int) = n
    · rw [if_pos hvn] at hR
      cases hv2 : vrd 0 0 (l.drop k) with
      | none =>
        simp only [hv2] at hR
        have HR := Lib.hid hR
        have HV2 := Lib.hid hv2
        clear hR h he hBr hB hv hv2
        subst hvn
        go_enter Tryd.func89, Tryd.ntmps89
        go_wp2_with (first
          | (go_at_call 60; (first
            | ((with_reducible refine HC.out.mono ?_); rintro e_ w1 ⟨rfl, h1, h2⟩; have H1 := Lib.hid h1; have H2 := Lib.hid h2; clear h1 h2)
            | ((with_reducible refine (decVarI_bad B pe pl r g l k w1 H2.out (HE.out.1.below (grown_below H1.out HE.out.2.2 HE.out.2.1)) HE.out.2.1 HV2.out).mono ?_); rintro e_ w2 ⟨ev, rfl, h1⟩; obtain ⟨a, s, rfl, h2⟩ : ∃ a s, ev = errV a ∧ Hid (w2.cell? a = some (.string s) ∧ s.data.toList ≠ []) := (by obtain ⟨a, s, e1, e2, e3⟩ := h1.2.1; exact ⟨a, s, e1, Lib.hid ⟨e2, e3⟩⟩); have H3 := Lib.hid h1; clear h1)))
          | (go_at_call 95; go_loud (refine (errNew_any _ _).mono ?_; rintro e_ w3 ⟨rfl, rfl⟩)))
        go_ret
        obtain ⟨hg, _, i', hrd⟩ := H3.out
        exact .inr ⟨HR.out.symm, _, rfl, err_new _ (by simp) (grown_trans H1.out hg) hrd⟩
      | some p =>
        obtain ⟨v2, k2⟩ := p
        simp only [hv2] at hR
        by_cases h0 : wrap64 (v2 : Int) = 0
        · simp only [if_pos h0] at hR
          have HR := Lib.hid hR
          have HV2 := Lib.hid hv2
          have hz : (wrap64 (v2 : Int) != 0) = false := by rw [h0]; rfl
          clear hR h he hBr hB hv hv2
          subst hvn
          go_enter Tryd.func89, Tryd.ntmps89
          go_wp2_with (go_at_call 60; (first
              | ((with_reducible refine HC.out.mono ?_); rintro e_ w1 ⟨rfl, h1, h2⟩; have H1 := Lib.hid h1; have H2 := Lib.hid h2; clear h1 h2)
              | ((with_reducible refine (decVarI_ok B pe pl r g l k v2 k2 w1 H2.out (HE.out.1.below (grown_below H1.out HE.out.2.2 HE.out.2.1)) HE.out.2.1 HV2.out).mono ?_); rintro e_ w2 ⟨rfl, h1, h2⟩; have H3 := Lib.hid h1; have H4 := Lib.hid h2; clear h1 h2)))
          go_ret
          exact .inl ⟨_, HR.out.symm, rfl, grown_trans H1.out H3.out, H4.out⟩
        · simp only [if_neg h0] at hR
          have HR := Lib.hid hR
          have HV2 := Lib.hid hv2
          have hz : (wrap64 (v2 : Int) != 0) = true := by rw [bne_iff_ne]; exact h0
          clear hR h he hBr hB hv hv2
          subst hvn
          go_enter Tryd.func89, Tryd.ntmps89
          go_wp2_with (first
            | (go_at_call 60; (first
              | ((with_reducible refine HC.out.mono ?_); rintro e_ w1 ⟨rfl, h1, h2⟩; have H1 := Lib.hid h1; have H2 := Lib.hid h2; clear h1 h2)
              | ((with_reducible refine (decVarI_ok B pe pl r g l k v2 k2 w1 H2.out (HE.out.1.below (grown_below H1.out HE.out.2.2 HE.out.2.1)) HE.out.2.1 HV2.out).mono ?_); rintro e_ w2 ⟨rfl, h1, h2⟩; have H3 := Lib.hid h1; have H4 := Lib.hid h2; clear h1 h2)))
            | (go_at_call 95; go_loud (refine (errNew_any _ _).mono ?_; rintro e_ w3 ⟨rfl, rfl⟩)))
          go_ret
          exact .inr ⟨HR.out.symm, _, rfl, err_new _ (by simp) (grown_trans H1.out H3.out) H4.out⟩
    · rw [if_neg hvn] at hR
      have HR := Lib.hid hR
      have hz : (wrap64 (v : Int) != n) = true := by rw [bne_iff_ne]; exact hvn
      clear hR h he hBr hB hv
      go_enter Tryd.func89, Tryd.ntmps89
      go_wp2_with (first
        | (go_at_call 60; go_loud (refine HC.out.mono ?_; rintro e_ w1 ⟨rfl, h1, h2⟩; have H1 := Lib.hid h1; have H2 := Lib.hid h2; clear h1 h2))
        | (go_at_call 95; go_loud (refine (errNew_any _ _).mono ?_; rintro e_ w3 ⟨rfl, rfl⟩)))
      go_ret
      exact .inr ⟨HR.out.symm, _, rfl, err_new _ (by simp) H1.out H2.out⟩
end Go.Proofs.YtgdbeiadlgkedaaDoor
