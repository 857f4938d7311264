/- Contracts and plain laws, several texts in one. -/
import Derived.Test.YtgdbeiadlgkedaaDoorMRowBack8
import Derived.WalkSmall
/- Contracts: a row's simple header, written and read. -/
namespace Go.Proofs.YtgdbeiadlgkedaaDoor
open Go.RowKit
open Go.Joins (below_bytesWorld)
set_option linter.unusedVariables false
set_option linter.unusedSimpArgs false

def shead (n : Nat) : List UInt8 := Lib.uvarint n ++ Lib.uvarint 0
theorem u64of_small (n : Nat) (h : n ≤ 1000000) : u64of (n : Int) = n := by unfold u64of; omega
set_option maxHeartbeats 4000000 in
set_option maxRecDepth 100000 in
theorem wsh_any (B b n : Nat) (w : World) (h : Bf B b [] w) (hn : n ≤ 1000000) :
    Calls Tryd.prog 91 #[.int .i64 n, bfI b] w fun e w' => e = .returned .nilIface ∧ Bf B b (shead n) w' ∧ Below B w w' := by
  have HC := Lib.hid (encVarI_any B b (n : Int) [] w h (by decide))
  rw [u64of_small n hn, List.nil_append] at HC
  have HN := Lib.hid (Lib.uvarint_length64 (x := n) (by omega))
  clear h hn
  go_enter Tryd.func91, Tryd.ntmps91
  go_wp2_with (go_at_call 82; (first
    | ((with_reducible refine HC.out.mono ?_); rintro e_ w1 ⟨rfl, h1, h2, _⟩; have H1 := Lib.hid h1; have H2 := Lib.hid h2; clear h1 h2)
    | ((with_reducible refine (encVarI_any B b 0 _ w1 H1.out (by have := HN.out; omega)).mono ?_); rintro e_ w2 ⟨rfl, h1, h2, _⟩; have H3 := Lib.hid h1; have H4 := Lib.hid (H2.out.trans h2); clear h1 h2)))
  go_ret
  exact ⟨rfl, H3.out, H4.out⟩
theorem enc_below1 {w w2 w3 : World} {o : Obj} {n : Nat} (h : Below w.heap.size (w.alloc o) w2) (h3 : w3 = w2.drewN n) : Below w.heap.size w w3 := by
  subst h3
  have h0 : Below w.heap.size w (w.alloc o) := (Below.refl _ w).alloc (Nat.le_refl _) _
  have h1 := h0.trans h
  exact ⟨h1.os, h1.tape, h1.output, h1.size, h1.block⟩
set_option maxHeartbeats 4000000 in
set_option maxRecDepth 100000 in
theorem simpleHeader_any (n : Nat) (w : World) (hn : n ≤ 1000000) :
    Calls Tryd.prog 41 #[.int .i64 n] w fun e w' => e = .returned (.tuple #[.string ⟨(shead n).toArray⟩, .string ⟨#[]⟩]) ∧ Below w.heap.size w w' := by
  have HC := Lib.hid (wsh_any _ _ n _ (fresh_Bf w) hn)
  clear hn
  go_enter Tryd.func41, Tryd.ntmps41
  go_wp2_with (first
    | (go_at_call 91; go_loud (refine HC.out.mono ?_; rintro e_ w1 ⟨rfl, h1, h2⟩; have H1 := Lib.hid h1; have H2 := Lib.hid h2; clear h1 h2))
    | (go_at_call 84; refine (string_any _ _ _ _ H1.out).mono ?_; rintro e_ w2 ⟨rfl, q2, hq⟩; have HQ := Lib.hid (enc_below1 H2.out hq); clear hq)
    | (go_at_call 63; refine (word_nil _).mono ?_; rintro e_ w3 ⟨rfl, rfl⟩))
  go_ret2
  exact ⟨rfl, HQ.out⟩
/-- What a simple header's reader answers. -/
def rsh (n : Int) (l : List UInt8) : Option Nat :=
  match vrd 0 0 l with
  | none => none
  | some (v, k) => if wrap64 (v : Nat) = n then (match vrd 0 0 (l.drop k) with
    | none => none
    | some (v2, k2) => if wrap64 (v2 : Nat) = 0 then some (k + k2) else none) else none
theorem err_new {r g i : Nat} {l : List UInt8} {w w1 : World} (s : ByteArray) (hs : s.data.toList ≠ []) (hg : w.grownBy w1 (some r)) (hr : Rd r g l i w1) :
    Fell r g l w (w1.alloc (.cells #[.string s] 184)) (.iface 182 (.pointer (some ⟨w1.heap.size, 0, none⟩))) :=
  ⟨grown_alloc hg _, ⟨_, s, rfl, (blk_cell (heap_alloc_new w1 _) 0).trans rfl, hs⟩, i, hr.alloc _⟩
set_option maxHeartbeats 4000000 in
set_option maxRecDepth 100000 in
theorem readSimple_any (B : Nat) (pe pl : Addr) (r g : Nat) (n : Int) (l : List UInt8) (w : World) (h : Rd r g l 0 w) (he : Env B pe pl w) (hBr : B ≤ r) (hB : B ≤ w.heap.size) (R : Option Nat) (hR : rsh n l = R) :
    Calls Tryd.prog 89 #[.int .i64 n, rdI r] w fun e w' => (∃ k, R = some k ∧ e = .returned .nilIface ∧ w.grownBy w' (some r) ∧ Rd r g l k w') ∨ (R = none ∧ ∃ ev, e = .returned ev ∧ Fell r g l w w' ev) := by
  have HE := Lib.hid (And.intro he (And.intro hBr hB))
  unfold rsh at hR
  cases hv : vrd 0 0 l with
  | none =>
    simp only [hv] at hR
    have HC := Lib.hid (decVarI_bad B pe pl r g l 0 w h he hBr (by rw [List.drop_zero]; exact hv))
    have HR := Lib.hid hR
    clear hR h he hBr hB hv
    go_enter Tryd.func89, Tryd.ntmps89
    go_wp2_with (first
      | (go_at_call 60; go_loud (refine HC.out.mono ?_; rintro e_ w1 ⟨ev, rfl, h1⟩; obtain ⟨a, s, rfl, h2⟩ : ∃ a s, ev = errV a ∧ Hid (w1.cell? a = some (.string s) ∧ s.data.toList ≠ []) := (by obtain ⟨a, s, e1, e2, e3⟩ := h1.2.1; exact ⟨a, s, e1, Lib.hid ⟨e2, e3⟩⟩); have H1 := Lib.hid h1; clear h1))
      | (go_at_call 95; go_loud (refine (errNew_any _ _).mono ?_; rintro e_ w2 ⟨rfl, rfl⟩)))
    go_ret
    obtain ⟨hg, _, i', hrd⟩ := H1.out
    exact .inr ⟨HR.out.symm, _, rfl, err_new _ (by simp) hg hrd⟩
  | some p =>
    obtain ⟨v, k⟩ := p
    simp only [hv] at hR
    have HC := Lib.hid (decVarI_ok B pe pl r g l 0 v k w h he hBr (by rw [List.drop_zero]; exact hv))
    rw [Nat.zero_add] at HC
    by_cases hvn : wrap64 (v : Int) = n
    · rw [if_pos hvn] at hR
      cases hv2 : vrd 0 0 (l.drop k) with
      | none =>
        simp only [hv2] at hR
        have HR := Lib.hid hR
        have HV2 := Lib.hid hv2
        clear hR h he hBr hB hv hv2
        subst hvn
        go_enter Tryd.func89, Tryd.ntmps89
        go_wp2_with (first
          | (go_at_call 60; (first
            | ((with_reducible refine HC.out.mono ?_); rintro e_ w1 ⟨rfl, h1, h2⟩; have H1 := Lib.hid h1; have H2 := Lib.hid h2; clear h1 h2)
            | ((with_reducible refine (decVarI_bad B pe pl r g l k w1 H2.out (HE.out.1.below (grown_below H1.out HE.out.2.2 HE.out.2.1)) HE.out.2.1 HV2.out).mono ?_); rintro e_ w2 ⟨ev, rfl, h1⟩; obtain ⟨a, s, rfl, h2⟩ : ∃ a s, ev = errV a ∧ Hid (w2.cell? a = some (.string s) ∧ s.data.toList ≠ []) := (by obtain ⟨a, s, e1, e2, e3⟩ := h1.2.1; exact ⟨a, s, e1, Lib.hid ⟨e2, e3⟩⟩); have H3 := Lib.hid h1; clear h1)))
          | (go_at_call 95; go_loud (refine (errNew_any _ _).mono ?_; rintro e_ w3 ⟨rfl, rfl⟩)))
        go_ret
        obtain ⟨hg, _, i', hrd⟩ := H3.out
        exact .inr ⟨HR.out.symm, _, rfl, err_new _ (by simp) (grown_trans H1.out hg) hrd⟩
      | some p =>
        obtain ⟨v2, k2⟩ := p
        simp only [hv2] at hR
        by_cases h0 : wrap64 (v2 : Int) = 0
        · simp only [if_pos h0] at hR
          have HR := Lib.hid hR
          have HV2 := Lib.hid hv2
          have hz : (wrap64 (v2 : Int) != 0) = false := by rw [h0]; rfl
          clear hR h he hBr hB hv hv2
          subst hvn
          go_enter Tryd.func89, Tryd.ntmps89
          go_wp2_with (go_at_call 60; (first
              | ((with_reducible refine HC.out.mono ?_); rintro e_ w1 ⟨rfl, h1, h2⟩; have H1 := Lib.hid h1; have H2 := Lib.hid h2; clear h1 h2)
              | ((with_reducible refine (decVarI_ok B pe pl r g l k v2 k2 w1 H2.out (HE.out.1.below (grown_below H1.out HE.out.2.2 HE.out.2.1)) HE.out.2.1 HV2.out).mono ?_); rintro e_ w2 ⟨rfl, h1, h2⟩; have H3 := Lib.hid h1; have H4 := Lib.hid h2; clear h1 h2)))
          go_ret
          exact .inl ⟨_, HR.out.symm, rfl, grown_trans H1.out H3.out, H4.out⟩
        · simp only [if_neg h0] at hR
          have HR := Lib.hid hR
          have HV2 := Lib.hid hv2
          have hz : (wrap64 (v2 : Int) != 0) = true := by rw [bne_iff_ne]; exact h0
          clear hR h he hBr hB hv hv2
          subst hvn
          go_enter Tryd.func89, Tryd.ntmps89
          go_wp2_with (first
            | (go_at_call 60; (first
              | ((with_reducible refine HC.out.mono ?_); rintro e_ w1 ⟨rfl, h1, h2⟩; have H1 := Lib.hid h1; have H2 := Lib.hid h2; clear h1 h2)
              | ((with_reducible refine (decVarI_ok B pe pl r g l k v2 k2 w1 H2.out (HE.out.1.below (grown_below H1.out HE.out.2.2 HE.out.2.1)) HE.out.2.1 HV2.out).mono ?_); rintro e_ w2 ⟨rfl, h1, h2⟩; have H3 := Lib.hid h1; have H4 := Lib.hid h2; clear h1 h2)))
            | (go_at_call 95; go_loud (refine (errNew_any _ _).mono ?_; rintro e_ w3 ⟨rfl, rfl⟩)))
          go_ret
          exact .inr ⟨HR.out.symm, _, rfl, err_new _ (by simp) (grown_trans H1.out H3.out) H4.out⟩
    · rw [if_neg hvn] at hR
      have HR := Lib.hid hR
      have hz : (wrap64 (v : Int) != n) = true := by rw [bne_iff_ne]; exact hvn
      clear hR h he hBr hB hv
      go_enter Tryd.func89, Tryd.ntmps89
      go_wp2_with (first
        | (go_at_call 60; go_loud (refine HC.out.mono ?_; rintro e_ w1 ⟨rfl, h1, h2⟩; have H1 := Lib.hid h1; have H2 := Lib.hid h2; clear h1 h2))
        | (go_at_call 95; go_loud (refine (errNew_any _ _).mono ?_; rintro e_ w3 ⟨rfl, rfl⟩)))
      go_ret
      exact .inr ⟨HR.out.symm, _, rfl, err_new _ (by simp) H1.out H2.out⟩
end Go.Proofs.YtgdbeiadlgkedaaDoor

/- The walk of the statement on a row's simple header. -/
namespace Go.Proofs.YtgdbeiadlgkedaaDoor
open Go.RowKit
open Go.Joins (below_bytesWorld)
set_option linter.unusedVariables false
set_option linter.unusedSimpArgs false

set_option maxHeartbeats 4000000 in
set_option maxRecDepth 100000 in
theorem sho_ok (B : Nat) (pe pl : Addr) (n : Int) (t : ByteArray) (k : Nat) (w : World) (ht : t.size ≤ 4294967296) (he : Env B pe pl w) (hB : B ≤ w.heap.size) (hR : rsh n t.data.toList = some k) :
    Calls Tryd.prog 38 #[.int .i64 n, .string t] w fun e w' => e = .returned (.tuple #[.int .i64 k, .string ⟨#[]⟩]) ∧ Below w.heap.size w w' := by
  have kc := conv_bytes
  have HS := Lib.hid (And.intro ht (And.intro hB he))
  have HK := Lib.hid hR
  clear ht he hB hR
  have HC : Hid (∀ (r : Nat) (w1 : World), Rd r w.heap.size t.data.toList 0 w1 → Below w.heap.size w w1 → w.heap.size < r → Calls Tryd.prog 89 #[.int .i64 n, rdI r] w1 fun e w' => e = .returned .nilIface ∧ w1.grownBy w' (some r) ∧ Rd r w.heap.size t.data.toList k w') := Lib.hid (fun r w1 h1 h2 h3 => by
    obtain ⟨a1, a2, a3⟩ := rn_start HS.out.2.1 HS.out.2.2 h2 h3
    refine (readSimple_any B pe pl r _ n _ w1 h1 a1 a2 a3 _ HK.out).mono ?_
    rintro e w' (⟨k', hk, b1, b2, b3⟩ | ⟨hn, _⟩)
    · obtain rfl := Option.some.inj hk; exact ⟨b1, b2, b3⟩
    · exact absurd hn (by simp))
  go_enter Tryd.func38, Tryd.ntmps38
  go_wp2_with (first
    | (go_at_call 45; go_loud (refine (newRd_any w w.heap.size rfl t HS.out.1).mono ?_; rintro e_ w1 ⟨r, rfl, hr1, hr2, hr3⟩; have HR := Lib.hid (And.intro hr1 (And.intro hr2 hr3)); clear hr1 hr2 hr3))
    | (go_at_call 89; go_loud (refine (HC.out r w1 HR.out.1 HR.out.2.1 HR.out.2.2).mono ?_; rintro e_ w2 ⟨rfl, h2, h3⟩; have HB := Lib.hid (HR.out.2.1.trans (grown_below h2 HR.out.2.1.size (Nat.le_of_lt HR.out.2.2))); have HRD := Lib.hid h3; obtain ⟨L, hL⟩ : ∃ L, Hid (t.data.toList.length - k = L) := ⟨_, Lib.hid rfl⟩; have qs : (t.size : Int) - (L : Int) = (k : Int) := (by have h1 := h3.le; have h2 : t.data.toList.length = t.size := (by rw [Array.length_toList]; rfl); have := hL.out; omega); have qs2 : IntKind.i64.wrap (k : Int) = (k : Int) := IntWalk.i64_in _ (by have := h3.le; have := h3.len; omega); have qs3 : wrap64 (k : Int) = (k : Int) := IntWalk.wrap64_in _ (by have := h3.le; have := h3.len; omega); clear h2 h3))
    | (go_at_call 62; go_loud (refine (len_any r w.heap.size t.data.toList k w2 HRD.out).mono ?_; rw [hL.out]; rintro e_ w4 ⟨rfl, q4, rfl⟩))
    | (go_at_call 63; go_loud (refine (word_nil _).mono ?_; rintro e_ w5 ⟨rfl, rfl⟩)))
  go_ret2
  exact ⟨rfl, below_drewN HB.out q4⟩
set_option maxHeartbeats 4000000 in
set_option maxRecDepth 100000 in
theorem sho_bad (B : Nat) (pe pl : Addr) (n : Int) (t : ByteArray) (w : World) (ht : t.size ≤ 4294967296) (he : Env B pe pl w) (hB : B ≤ w.heap.size) (hR : rsh n t.data.toList = none) :
    Calls Tryd.prog 38 #[.int .i64 n, .string t] w fun e w' => ∃ (i : Nat) (s : ByteArray), e = .returned (.tuple #[.int .i64 i, .string s]) ∧ s.data.toList ≠ [] ∧ Below w.heap.size w w' := by
  have kc := conv_bytes
  have HS := Lib.hid (And.intro ht (And.intro hB he))
  have HK := Lib.hid hR
  clear ht he hB hR
  have HC : Hid (∀ (r : Nat) (w1 : World), Rd r w.heap.size t.data.toList 0 w1 → Below w.heap.size w w1 → w.heap.size < r → Calls Tryd.prog 89 #[.int .i64 n, rdI r] w1 fun e w' => ∃ (a : Addr) (s : ByteArray) (i : Nat), e = .returned (errV a) ∧ w1.grownBy w' (some r) ∧ Rd r w.heap.size t.data.toList i w' ∧ w'.cell? a = some (.string s) ∧ s.data.toList ≠ []) := Lib.hid (fun r w1 h1 h2 h3 => by
    obtain ⟨a1, a2, a3⟩ := rn_start HS.out.2.1 HS.out.2.2 h2 h3
    refine (readSimple_any B pe pl r _ n _ w1 h1 a1 a2 a3 _ HK.out).mono ?_
    rintro e w' (⟨k', hk, _⟩ | ⟨_, ev, b1, b2, ⟨a, s, e1, e2, e3⟩, i, b3⟩)
    · exact absurd hk (by simp)
    · exact ⟨a, s, i, by rw [b1, e1], b2, b3, e2, e3⟩)
  go_enter Tryd.func38, Tryd.ntmps38
  go_wp2_with (first
    | (go_at_call 45; go_loud (refine (newRd_any w w.heap.size rfl t HS.out.1).mono ?_; rintro e_ w1 ⟨r, rfl, hr1, hr2, hr3⟩; have HR := Lib.hid (And.intro hr1 (And.intro hr2 hr3)); clear hr1 hr2 hr3))
    | (go_at_call 89; go_loud (refine (HC.out r w1 HR.out.1 HR.out.2.1 HR.out.2.2).mono ?_; rintro e_ w2 ⟨a, s, k, rfl, h2, h3, h4, h5⟩; have HB := Lib.hid (HR.out.2.1.trans (grown_below h2 HR.out.2.1.size (Nat.le_of_lt HR.out.2.2))); have HRD := Lib.hid h3; have HEW := Lib.hid (And.intro h4 h5); obtain ⟨L, hL⟩ : ∃ L, Hid (t.data.toList.length - k = L) := ⟨_, Lib.hid rfl⟩; have qs : (t.size : Int) - (L : Int) = (k : Int) := (by have h1 := h3.le; have h2 : t.data.toList.length = t.size := (by rw [Array.length_toList]; rfl); have := hL.out; omega); have qs2 : IntKind.i64.wrap (k : Int) = (k : Int) := IntWalk.i64_in _ (by have := h3.le; have := h3.len; omega); have qs3 : wrap64 (k : Int) = (k : Int) := IntWalk.wrap64_in _ (by have := h3.le; have := h3.len; omega); clear h2 h3 h4 h5))
    | (go_at_call 62; go_loud (refine (len_any r w.heap.size t.data.toList k w2 HRD.out).mono ?_; rw [hL.out]; rintro e_ w4 ⟨rfl, q4, rfl⟩))
    | (go_at_call 63; go_loud (refine (word_err a s (w2.drewN q4) (by exact HEW.out.1)).mono ?_; rintro e_ w5 ⟨rfl, rfl⟩)))
  go_ret2
  exact ⟨k, s, rfl, HEW.out.2, below_drewN HB.out q4⟩
theorem conv_empty (W : World) (d : Nat) :
    (convert 29 9 (.slice (some ⟨d, 0, none⟩) 0 0)).run Tryd.prog W = .ok (.string ⟨#[]⟩) W :=
  run_convert_bytes_back (P := Tryd.prog) W 29 9 5 ⟨d, 0, none⟩ 0 [] Tryd.underlying29 Tryd.underlying5 Tryd.underlying9 (fun j hj => absurd hj (by simp))
theorem add_any (s t : ByteArray) (h : s.data.toList.length + t.data.toList.length ≤ 1000000) : ∀ W : World, (Op.stringOp .add s t).run Tryd.prog W = .ok (.string (s ++ t)) W := fun W =>
  run_string_add_sum W s t (by rw [Array.length_toList, Array.length_toList] at h; show s.data.size + t.data.size ≤ _; omega)
theorem uv0 : Lib.uvarint 0 = [0] := by rw [Lib.uvarint_small (by decide)]; rfl
theorem shead_len (n : Nat) (hn : n ≤ 1000000) : (shead n).length ≤ 11 := by
  unfold shead
  have := Lib.uvarint_length64 (x := n) (by omega)
  rw [List.length_append, uv0]; simp; omega
set_option maxHeartbeats 4000000 in
set_option maxRecDepth 100000 in
theorem rowHead_nil (n : Nat) (w : World) (hn : n ≤ 1000000) :
    Calls Tryd.prog 42 #[.int .i64 n, .slice none 0 0] w fun e w' => e = .returned (.string ⟨(shead n).toArray⟩) ∧ Below w.heap.size w w' := by
  have km : ∀ W : World, (Instr.makeSlice 29 (.int .i64 0) (.int .i64 0)).run Tryd.prog W = .ok (.slice (some ⟨W.heap.size, 0, none⟩) 0 0) (W.alloc (mkz 0)) := fun W => mk_bytes 0 (by omega) W
  have q1 : IntKind.u64.wrap (n : Int) = (n : Int) := by rw [IntKind.wrap_u64]; omega
  have q0 : IntKind.u64.wrap 0 = 0 := by rw [IntKind.wrap_u64]; rfl
  obtain ⟨s1, h1⟩ : ∃ s : ByteArray, s = ⟨(Lib.uvarint n).toArray⟩ := ⟨_, rfl⟩
  obtain ⟨s2, h2⟩ : ∃ s : ByteArray, s = ⟨(Lib.uvarint 0).toArray⟩ := ⟨_, rfl⟩
  have HC1 := Lib.hid (show ∀ W, Calls Tryd.prog 32 #[.int .u64 n] W fun e w' => e = .returned (.string s1) ∧ Below W.heap.size W w' from fun W => by rw [h1]; exact codVarint_any n W (by omega))
  have HC2 := Lib.hid (show ∀ W, Calls Tryd.prog 32 #[.int .u64 0] W fun e w' => e = .returned (.string s2) ∧ Below W.heap.size W w' from fun W => by rw [h2]; exact codVarint_any 0 W (by omega))
  have l1 : s1.data.toList.length ≤ 10 := by rw [h1]; exact Lib.uvarint_length64 (by omega)
  have l2 : s2.data.toList.length = 1 := by rw [h2, uv0]; rfl
  have k1 := add_any s1 s2 (by omega)
  have k2 := add_any (s1 ++ s2) ⟨#[]⟩ (by rw [data_append, List.length_append]; show _ + 0 ≤ _; omega)
  have k3 := conv_empty
  have HE := Lib.hid (show s1 ++ s2 ++ ⟨#[]⟩ = (⟨(shead n).toArray⟩ : ByteArray) from str_ext (by rw [data_append, data_append, h1, h2]; simp [shead]))
  clear hn h1 h2 l1 l2
  go_enter Tryd.func42, Tryd.ntmps42
  go_wp2
  refine wp_loop_rounds 1 ?_; rw [rounds_succ]
  go_wp2
  refine wp_loop_rounds 1 ?_; rw [rounds_succ]
  go_wp2
  go_region_with (go_at_call 32; (first
    | ((with_reducible refine (HC1.out _).mono ?_); rintro e_ w1 ⟨rfl, hb1⟩; have HB1 := Lib.hid hb1; clear hb1)
    | ((with_reducible refine (HC2.out _).mono ?_); rintro e_ w2 ⟨rfl, hb2⟩; have HB2 := Lib.hid hb2; clear hb2)))
  all_goals
    go_wp2
    go_ret
    have B0 : Below w.heap.size w (w.alloc (mkz 0)).drew := ((Below.refl _ w).alloc (Nat.le_refl _) _).drew
    have B1 := B0.trans (HB1.out.mono B0.size)
    exact ⟨ret_str HE.out, B1.trans (HB2.out.mono B1.size)⟩
theorem rsh_head (n : Nat) (m : Int) (rest : List UInt8) (hn : n ≤ 1000000) : rsh m (shead n ++ rest) = if (n : Int) = m then some (shead n).length else none := by
  have h1 : vrd 0 0 (shead n ++ rest) = some (n, (Lib.uvarint n).length) := by
    unfold shead; rw [List.append_assoc]; exact vrd_uv _ (by omega)
  have h2 : (shead n ++ rest).drop (Lib.uvarint n).length = Lib.uvarint 0 ++ rest := by
    unfold shead; rw [List.append_assoc, List.drop_left' rfl]
  have h3 : vrd 0 0 (Lib.uvarint 0 ++ rest) = some (0, (Lib.uvarint 0).length) := vrd_uv _ (by omega)
  have h4 : wrap64 (n : Int) = n := by unfold wrap64; omega
  unfold rsh
  simp only [h1, h2, h3, h4]
  split
  · rename_i h
    rw [if_pos (show wrap64 ((0 : Nat) : Int) = 0 by unfold wrap64; omega)]
    congr 1
    unfold shead
    rw [List.length_append]
  · rfl
set_option maxHeartbeats 8000000 in
set_option maxRecDepth 100000 in
theorem rowSimple_row (pe pl : Addr) (n o : Int) (s : ByteArray) (w : World) (hn : (Lit.int .i64 n).wf = true) (ho : (Lit.int .i64 o).wf = true) (he : Env w.heap.size pe pl w) :
    Calls Tryd.prog 17 #[.int .i64 n, .int .i64 o, .string s] w fun e w' => e = .returned (.bool true) ∧ Below w.heap.size w w' := by
  have HE := Lib.hid he
  by_cases h1 : 2147483647 < s.size
  · have hc : 2147483647 < (s.size : Int) := by omega
    clear he hn ho h1
    go_enter Tryd.func17, Tryd.ntmps17
    go_wp2
    go_ret
    exact ⟨rfl, Below.refl _ w⟩
  · have hc : ¬ 2147483647 < (s.size : Int) := by omega
    have HA := Lib.hid (awake_any w.heap.size pe pl w he (Nat.le_refl _))
    by_cases c1 : n < 0
    · clear he hn ho h1
      go_enter Tryd.func17, Tryd.ntmps17
      go_wp2_with (go_at_call 21; go_loud (refine HA.out.mono ?_; rintro e_ w1 ⟨rfl, hb1⟩; have HB1 := Lib.hid hb1; clear hb1))
      go_ret
      exact ⟨rfl, HB1.out⟩
    · by_cases c2 : 1000000 < n
      · clear he hn ho h1
        go_enter Tryd.func17, Tryd.ntmps17
        go_wp2_with (go_at_call 21; go_loud (refine HA.out.mono ?_; rintro e_ w1 ⟨rfl, hb1⟩; have HB1 := Lib.hid hb1; clear hb1))
        go_ret
        exact ⟨rfl, HB1.out⟩
      · by_cases c3 : o < 0
        · clear he hn ho h1
          go_enter Tryd.func17, Tryd.ntmps17
          go_wp2_with (go_at_call 21; go_loud (refine HA.out.mono ?_; rintro e_ w1 ⟨rfl, hb1⟩; have HB1 := Lib.hid hb1; clear hb1))
          go_ret
          exact ⟨rfl, HB1.out⟩
        · by_cases c4 : 1000000 < o
          · clear he hn ho h1
            go_enter Tryd.func17, Tryd.ntmps17
            go_wp2_with (go_at_call 21; go_loud (refine HA.out.mono ?_; rintro e_ w1 ⟨rfl, hb1⟩; have HB1 := Lib.hid hb1; clear hb1))
            go_ret
            exact ⟨rfl, HB1.out⟩
          · by_cases c5 : 50 < (s.size : Int)
            · clear he hn ho h1
              go_enter Tryd.func17, Tryd.ntmps17
              go_wp2_with (go_at_call 21; go_loud (refine HA.out.mono ?_; rintro e_ w1 ⟨rfl, hb1⟩; have HB1 := Lib.hid hb1; clear hb1))
              go_ret
              exact ⟨rfl, HB1.out⟩
            · obtain ⟨k, rfl⟩ := Int.eq_ofNat_of_zero_le (show 0 ≤ n by omega)
              obtain ⟨m, rfl⟩ := Int.eq_ofNat_of_zero_le (show 0 ≤ o by omega)
              have HK := Lib.hid (show k ≤ 1000000 ∧ m ≤ 1000000 ∧ s.size ≤ 50 by omega)
              have c2' : ¬ 1000000 < (k : Int) := c2
              have c4' : ¬ 1000000 < (m : Int) := c4
              obtain ⟨t, ht⟩ : ∃ t : ByteArray, t = ⟨(shead k).toArray⟩ := ⟨_, rfl⟩
              have HT := Lib.hid ht
              have hl := shead_len k HK.out.1
              have hsl : s.data.toList.length ≤ 50 := by rw [Array.length_toList]; exact HK.out.2.2
              have htl : t.data.toList = shead k := by rw [ht]
              have kadd := add_any t s (by rw [htl]; omega)
              have HU := Lib.hid (show (t ++ s).data.toList = shead k ++ s.data.toList by rw [data_append, htl])
              obtain ⟨L, hL⟩ : ∃ L, Hid ((shead k).length = L) := ⟨_, Lib.hid rfl⟩
              have htz : t.size = L := by rw [← hL.out, ← htl, Array.length_toList]; rfl
              have HUS := Lib.hid (show (t ++ s).size ≤ 4294967296 by
                have : (t ++ s).data.toList.length = (t ++ s).size := by rw [Array.length_toList]; rfl
                rw [← this, HU.out, List.length_append]; omega)
              have HC1 := Lib.hid (show ∀ W, Calls Tryd.prog 41 #[.int .i64 k] W fun e w' => e = .returned (.tuple #[.string t, .string ⟨#[]⟩]) ∧ Below W.heap.size W w' from fun W => by rw [ht]; exact simpleHeader_any k W HK.out.1)
              have HC2 := Lib.hid (show ∀ W, Calls Tryd.prog 42 #[.int .i64 k, .slice none 0 0] W fun e w' => e = .returned (.string t) ∧ Below W.heap.size W w' from fun W => by rw [ht]; exact rowHead_nil k W HK.out.1)
              have HC3 := Lib.hid (show ∀ W, Below w.heap.size w W → Calls Tryd.prog 38 #[.int .i64 k, .string (t ++ s)] W fun e w' => e = .returned (.tuple #[.int .i64 L, .string ⟨#[]⟩]) ∧ Below W.heap.size W w' from fun W hW => sho_ok w.heap.size pe pl k _ L W HUS.out (HE.out.below hW) hW.size (by rw [HU.out, rsh_head k k _ HK.out.1, if_pos rfl, hL.out]))
              clear he hn ho h1 ht hl hsl htl c1 c2 c3 c4
              by_cases hkm : m = k
              · subst hkm
                go_enter Tryd.func17, Tryd.ntmps17
                go_wp2_with (first
                  | (go_at_call 41; go_loud (refine (HC1.out _).mono ?_; rintro e_ w1 ⟨rfl, hb1⟩; have HB1 := Lib.hid hb1; clear hb1))
                  | (go_at_call 42; go_loud (refine (HC2.out _).mono ?_; rintro e_ w2 ⟨rfl, hb2⟩; have HB2 := Lib.hid (HB1.out.trans (hb2.mono HB1.out.size)); clear hb2))
                  | (go_at_call 38; (first
                    | ((with_reducible refine (HC3.out w2 HB2.out).mono ?_); rintro e_ w3 ⟨rfl, hb3⟩; have HB3 := Lib.hid (HB2.out.trans (hb3.mono HB2.out.size)); clear hb3)
                    | ((with_reducible refine (HC3.out w3 HB3.out).mono ?_); rintro e_ w4 ⟨rfl, hb4⟩; have HB4 := Lib.hid (HB3.out.trans (hb4.mono HB3.out.size)); clear hb4)))
                  | (go_at_call 21; go_loud (refine (awake_any w.heap.size pe pl _ (HE.out.below HB4.out) HB4.out.size).mono ?_; rintro e_ w5 ⟨rfl, hb5⟩; have HB5 := Lib.hid (HB4.out.trans (hb5.mono HB4.out.size)); clear hb5)))
                go_ret
                exact ⟨rfl, HB5.out⟩
              · have HC4 := Lib.hid (show ∀ W, Below w.heap.size w W → Calls Tryd.prog 38 #[.int .i64 m, .string (t ++ s)] W fun e w' => ∃ (i : Nat) (s : ByteArray), e = .returned (.tuple #[.int .i64 i, .string s]) ∧ s.data.toList ≠ [] ∧ Below W.heap.size W w' from fun W hW => sho_bad w.heap.size pe pl m _ W HUS.out (HE.out.below hW) hW.size (by rw [HU.out, rsh_head k m _ HK.out.1, if_neg (by omega)]))
                have hne : ((m : Int) == (k : Int)) = false := by rw [beq_eq_false_iff_ne]; omega
                clear hkm
                go_enter Tryd.func17, Tryd.ntmps17
                go_wp2_with (first
                  | (go_at_call 41; go_loud (refine (HC1.out _).mono ?_; rintro e_ w1 ⟨rfl, hb1⟩; have HB1 := Lib.hid hb1; clear hb1))
                  | (go_at_call 42; go_loud (refine (HC2.out _).mono ?_; rintro e_ w2 ⟨rfl, hb2⟩; have HB2 := Lib.hid (HB1.out.trans (hb2.mono HB1.out.size)); clear hb2))
                  | (go_at_call 38; (first
                    | ((with_reducible refine (HC3.out w2 HB2.out).mono ?_); rintro e_ w3 ⟨rfl, hb3⟩; have HB3 := Lib.hid (HB2.out.trans (hb3.mono HB2.out.size)); clear hb3)
                    | ((with_reducible refine (HC4.out w3 HB3.out).mono ?_); rintro e_ w4 ⟨i4, s4, rfl, hs4, hb4⟩; have hne4 := ne_empty hs4; have HB4 := Lib.hid (HB3.out.trans (hb4.mono HB3.out.size)); clear hb4 hs4)))
                  | (go_at_call 21; go_loud (refine (awake_any w.heap.size pe pl _ (HE.out.below HB4.out) HB4.out.size).mono ?_; rintro e_ w5 ⟨rfl, hb5⟩; have HB5 := Lib.hid (HB4.out.trans (hb5.mono HB4.out.size)); clear hb5)))
                go_ret
                exact ⟨rfl, HB5.out⟩
end Go.Proofs.YtgdbeiadlgkedaaDoor

/- Contracts: the reference reads a number by sevens of bits. -/
namespace Go.Proofs.YtgdbeiadlgkedaaDoor
open Go.RowKit
set_option linter.unusedVariables false
set_option linter.unusedSimpArgs false

def cvr (R : Option (Nat × Nat)) : Value := match R with
  | some (v, k) => .tuple #[.int .u64 (v : Nat), .int .i64 (k : Nat), .int .i64 0]
  | none => .tuple #[.int .u64 0, .int .i64 0, .int .i64 1]
theorem get_at (s : ByteArray) (i : Nat) (c : UInt8) (r : List UInt8) (h : s.data.toList.drop i = c :: r) : ∀ hm : i < s.size, s[i]'hm = c := by
  intro hm
  have h1 : s.data.toList[i]? = some c := by
    have := congrArg (fun l => l[0]?) h
    simpa [List.getElem?_drop] using this
  obtain ⟨h3, h4⟩ := List.getElem?_eq_some_iff.1 h1
  rw [← h4]; rfl
set_option maxHeartbeats 8000000 in
set_option maxRecDepth 100000 in
theorem codVarRead_any (s : ByteArray) (w : World) (hs : s.size ≤ 4294967296) (R : Option (Nat × Nat)) (hR : vrd 0 0 s.data.toList = R) :
    Calls Tryd.prog 37 #[.string s] w fun e w' => e = .returned (cvr R) ∧ w = w' := by
  obtain ⟨N, hN⟩ : ∃ N, N = s.size := ⟨_, rfl⟩
  have hN2 := hN.symm
  have HL := Lib.hid (show s.data.toList.length = N by rw [Array.length_toList]; exact hN.symm)
  have HS := Lib.hid hs
  have HR := Lib.hid hR
  clear hs hR hN
  go_enter Tryd.func37, Tryd.ntmps37
  go_wp2
  go_loopg [5, 9] N (fun kq v5 v9 wr => ∃ (i z : Nat), v5 = .int .u64 z ∧ v9 = .int .i64 i ∧ Hid (kq + i = N) ∧ Hid (vrd i z (s.data.toList.drop i) = R ∧ i ≤ 9 ∧ z < 2 ^ (7 * i)) ∧ w = wr)
  case atStart => exact ⟨0, 0, rfl, rfl, Lib.hid rfl, Lib.hid ⟨by rw [List.drop_zero]; exact HR.out, by omega, by decide⟩, rfl⟩
  case round =>
    clear HR
    obtain ⟨i, z, rfl, rfl, HI, HV, hw⟩ := hrel
    subst hw
    have hw1 : wrap64 ((i : Int) + 1) = (i : Int) + 1 := IntWalk.wrap64_in _ (by have := HV.out; omega)
    have hw2 : IntKind.i64.wrap ((i : Int) + 1) = (i : Int) + 1 := IntWalk.i64_in _ (by have := HV.out; omega)
    cases gk with
    | zero =>
      obtain rfl : i = N := by have := HI.out; omega
      have hR : R = none := by rw [← HV.out.1, List.drop_eq_nil_of_le (by rw [HL.out]; omega)]; rfl
      have HR := Lib.hid hR
      clear hR hw1 hw2
      go_wp2
      go_ret3
      exact ⟨by rw [HR.out]; rfl, rfl⟩
    | succ d =>
      have hlt : (i : Int) < (N : Int) := by have := HI.out; omega
      have hlt2 : i < N := by omega
      obtain ⟨c, rest, hcr⟩ : ∃ c rest, s.data.toList.drop i = c :: rest := ⟨_, _, List.drop_eq_getElem_cons (by rw [HL.out]; omega)⟩
      have hg := get_at s i c rest hcr
      have hc256 := c.toNat_lt
      have HCR := Lib.hid hcr
      obtain ⟨n, hn⟩ : ∃ n, Hid (c.toNat = n) := ⟨_, Lib.hid rfl⟩
      obtain ⟨b, hb⟩ : ∃ b, Hid (n % 128 = b) := ⟨_, Lib.hid rfl⟩
      obtain ⟨sh, hsh⟩ : ∃ sh, Hid (7 * i = sh) := ⟨_, Lib.hid rfl⟩
      have hlt3 : i < s.size := by omega
      have qa : bits .and .u8 (n : Int) 127 = (b : Int) := by rw [← hn.out, u8_and127 c.toNat hc256, hn.out, hb.out]
      have qb : IntKind.u64.wrap (b : Int) = (b : Int) := by rw [IntKind.wrap_u64]; have := hb.out; omega
      have qs : wrap64 (7 * (i : Int)) = (sh : Int) := by rw [IntWalk.wrap64_in _ (by have := HV.out; omega)]; have := hsh.out; omega
      have qs2 : IntKind.i64.wrap (7 * (i : Int)) = (sh : Int) := by rw [IntWalk.i64_in _ (by have := HV.out; omega)]; have := hsh.out; omega
      have hsh63 : (sh : Int) < 64 := by have := hsh.out; have := HV.out; omega
      have hsh64 : sh < 64 := by omega
      have hcn : c.toNat = n := hn.out
      by_cases h9 : i = 9
      · have hi9 : ((i : Int) == 9) = true := by rw [beq_iff_eq]; omega
        by_cases h1 : 1 < n
        · have h1' : 1 < (n : Int) := by omega
          have HR := Lib.hid (show R = none by rw [← HV.out.1, HCR.out]; exact vrd_bad (.inr ⟨h9, by omega⟩))
          clear h9 h1 hcr hc256 qa qb qs qs2 hsh63 hsh64 hw1 hw2
          go_wp2
          go_ret3
          exact ⟨by rw [HR.out]; rfl, rfl⟩
        · have h1' : ¬ 1 < (n : Int) := by omega
          have h2' : (n : Int) < 128 := by omega
          have hi10 : ¬ 9 < (i : Int) := by omega
          obtain ⟨V, hV⟩ : ∃ V, Hid (z + b * 2 ^ sh = V) := ⟨_, Lib.hid rfl⟩
          have hbn : b = n := by have := hb.out; omega
          have hsh9 : sh = 63 := by have := hsh.out; omega
          have qv : bits .or .u64 (z : Int) (IntKind.u64.wrap ((b : Int) * 2 ^ sh)) = (V : Int) := by
            rw [orv z b sh (by rw [← hsh.out]; exact HV.out.2.2) (by omega) (by
              rw [hsh9]
              have e : (2 : Nat) ^ 63 = 9223372036854775808 := by decide
              have : b * 2 ^ 63 ≤ 1 * 2 ^ 63 := Nat.mul_le_mul_right _ (by omega)
              omega), hV.out]
          have HR := Lib.hid (show R = some (V, i + 1) by
            rw [← HV.out.1, HCR.out, vrd_end (by omega) (by omega), ← hV.out, hsh.out, hbn, hcn])
          clear h9 h1 hcr hc256 hbn hsh9
          go_wp2
          go_ret3
          exact ⟨by rw [HR.out]; rfl, rfl⟩
      · have hi9 : ((i : Int) == 9) = false := by rw [beq_eq_false_iff_ne]; omega
        have hi10 : ¬ 9 < (i : Int) := by have := HV.out; omega
        obtain ⟨V, hV⟩ : ∃ V, Hid (z + b * 2 ^ sh = V) := ⟨_, Lib.hid rfl⟩
        have hb1 : b < 128 := by have := hb.out; omega
        have qv : bits .or .u64 (z : Int) (IntKind.u64.wrap ((b : Int) * 2 ^ sh)) = (V : Int) := by
          rw [orv z b sh (by rw [← hsh.out]; exact HV.out.2.2) (by have := hsh.out; have := HV.out; omega) (by rw [← hsh.out]; exact mul_pow_lt b i hb1 (by have := HV.out; omega)), hV.out]
        by_cases h128 : n < 128
        · have h2' : (n : Int) < 128 := by omega
          have hbn : b = n := by have := hb.out; omega
          have HR := Lib.hid (show R = some (V, i + 1) by
            rw [← HV.out.1, HCR.out, vrd_end (by have := HV.out; omega) (by omega), ← hV.out, hsh.out, hbn, hcn])
          clear h9 h128 hcr hc256 hbn hb1
          go_wp2
          go_ret3
          exact ⟨by rw [HR.out]; rfl, rfl⟩
        · have h2' : ¬ (n : Int) < 128 := by omega
          have HNX := Lib.hid (show vrd (i + 1) V rest = R ∧ i + 1 ≤ 9 ∧ V < 2 ^ (7 * (i + 1)) by
            refine ⟨?_, by have := HV.out; omega, ?_⟩
            · rw [← HV.out.1, HCR.out, vrd_on (by have := HV.out; omega) (by omega), ← hV.out, hsh.out, hcn, hb.out]
            · rw [← hV.out, ← hsh.out, pow7]
              have := HV.out.2.2
              have : b * 2 ^ (7 * i) ≤ 127 * 2 ^ (7 * i) := Nat.mul_le_mul_right _ (by omega)
              omega)
          have HDR := Lib.hid (show s.data.toList.drop (i + 1) = rest by rw [← List.drop_drop, HCR.out]; rfl)
          clear h9 h128 hcr hc256 hb1
          go_wp2
          go_roundg d
          case measure => exact Nat.lt_succ_self d
          case rel => exact ⟨i + 1, V, rfl, by go_num, Lib.hid (by have := HI.out; omega), Lib.hid (by rw [HDR.out]; exact HNX.out), rfl⟩
end Go.Proofs.YtgdbeiadlgkedaaDoor

/- The walk of the statement on the reading of a simple header. -/
namespace Go.Proofs.YtgdbeiadlgkedaaDoor
open Go.RowKit
set_option linter.unusedVariables false
set_option linter.unusedSimpArgs false

theorem rsh_none1 {n : Int} {l : List UInt8} {v k : Nat} (h : vrd 0 0 l = some (v, k)) (hn : wrap64 (v : Int) ≠ n) : rsh n l = none := by
  unfold rsh; simp only [h]; rw [if_neg hn]
theorem rsh_none2 {n : Int} {l : List UInt8} {v k : Nat} (h : vrd 0 0 l = some (v, k)) (h2 : vrd 0 0 (l.drop k) = none) : rsh n l = none := by
  unfold rsh; simp only [h, h2]; split <;> rfl
theorem rsh_none3 {n : Int} {l : List UInt8} {v k v2 k2 : Nat} (h : vrd 0 0 l = some (v, k)) (h2 : vrd 0 0 (l.drop k) = some (v2, k2)) (h0 : wrap64 (v2 : Int) ≠ 0) : rsh n l = none := by
  unfold rsh; simp only [h, h2, if_neg h0]; split <;> rfl
theorem rsh_some {n : Int} {l : List UInt8} {v k v2 k2 : Nat} (h : vrd 0 0 l = some (v, k)) (h2 : vrd 0 0 (l.drop k) = some (v2, k2)) (hn : wrap64 (v : Int) = n) (h0 : wrap64 (v2 : Int) = 0) : rsh n l = some (k + k2) := by
  unfold rsh; simp only [h, h2, if_pos hn, if_pos h0]
theorem kk_fact {k k2 z : Nat} (h1 : k ≤ 10) (h2 : k2 ≤ 10) (hz : k + k2 = z) : wrap64 ((k : Int) + (k2 : Int)) = (z : Int) ∧ IntKind.i64.wrap ((k : Int) + (k2 : Int)) = (z : Int) := by
  have h : wrap64 ((k : Int) + (k2 : Int)) = (z : Int) := by unfold wrap64; omega
  exact ⟨h, by rw [IntWalk.i64_in _ (by omega)]; omega⟩
set_option maxHeartbeats 8000000 in
set_option maxRecDepth 100000 in
theorem rowSimpleRead_row (pe pl : Addr) (n : Int) (s : ByteArray) (w : World) (hn : (Lit.int .i64 n).wf = true) (he : Env w.heap.size pe pl w) :
    Calls Tryd.prog 15 #[.int .i64 n, .string s] w fun e w' => e = .returned (.bool true) ∧ Below w.heap.size w w' := by
  have HE := Lib.hid he
  by_cases h1 : 2147483647 < s.size
  · have hc : 2147483647 < (s.size : Int) := by omega
    clear he hn h1
    go_enter Tryd.func15, Tryd.ntmps15
    go_wp2
    go_ret
    exact ⟨rfl, Below.refl _ w⟩
  · have hc : ¬ 2147483647 < (s.size : Int) := by omega
    have HA := Lib.hid (awake_any w.heap.size pe pl w he (Nat.le_refl _))
    by_cases c1 : n < 0
    · clear he hn h1
      go_enter Tryd.func15, Tryd.ntmps15
      go_wp2_with (go_at_call 21; go_loud (refine HA.out.mono ?_; rintro e_ w1 ⟨rfl, hb1⟩; have HB1 := Lib.hid hb1; clear hb1))
      go_ret
      exact ⟨rfl, HB1.out⟩
    · by_cases c2 : 1000000 < n
      · clear he hn h1
        go_enter Tryd.func15, Tryd.ntmps15
        go_wp2_with (go_at_call 21; go_loud (refine HA.out.mono ?_; rintro e_ w1 ⟨rfl, hb1⟩; have HB1 := Lib.hid hb1; clear hb1))
        go_ret
        exact ⟨rfl, HB1.out⟩
      · by_cases c5 : 100 < (s.size : Int)
        · clear he hn h1
          go_enter Tryd.func15, Tryd.ntmps15
          go_wp2_with (go_at_call 21; go_loud (refine HA.out.mono ?_; rintro e_ w1 ⟨rfl, hb1⟩; have HB1 := Lib.hid hb1; clear hb1))
          go_ret
          exact ⟨rfl, HB1.out⟩
        · obtain ⟨m, rfl⟩ := Int.eq_ofNat_of_zero_le (show 0 ≤ n by omega)
          have HK := Lib.hid (show m ≤ 1000000 ∧ s.size ≤ 100 ∧ s.size ≤ 4294967296 by omega)
          have c2' : ¬ 1000000 < (m : Int) := c2
          have hcv : IntKind.u64.wrap (m : Int) = (m : Int) := by rw [IntKind.wrap_u64]; have := HK.out; omega
          have HSZ := Lib.hid (show s.data.toList.length = s.size by rw [Array.length_toList]; rfl)
          cases hv : vrd 0 0 s.data.toList with
          | none =>
            have HC1 := Lib.hid (fun W => codVarRead_any s W HK.out.2.2 none hv)
            simp only [cvr] at HC1
            clear he hn h1 c1 c2 hv
            go_enter Tryd.func15, Tryd.ntmps15
            go_wp2_with (first
              | (go_at_call 37; go_loud (refine (HC1.out _).mono ?_; rintro e_ w0 ⟨rfl, rfl⟩))
              | (go_at_call 21; go_loud (refine HA.out.mono ?_; rintro e_ w1 ⟨rfl, hb1⟩; have HB1 := Lib.hid hb1; clear hb1)))
            go_ret
            exact ⟨rfl, HB1.out⟩
          | some p =>
            obtain ⟨v, k⟩ := p
            obtain ⟨f1, f2, f3, f4⟩ := vrd_facts _ 0 0 v k (by decide) hv
            have HC1 := Lib.hid (fun W => codVarRead_any s W HK.out.2.2 (some (v, k)) hv)
            simp only [cvr] at HC1
            by_cases c6 : 1000000 < v
            · have c6' : 1000000 < (v : Int) := by omega
              clear he hn h1 c1 c2 hv f1 f2 f3 f4 c6
              go_enter Tryd.func15, Tryd.ntmps15
              go_wp2_with (first
                | (go_at_call 37; go_loud (refine (HC1.out _).mono ?_; rintro e_ w0 ⟨rfl, rfl⟩))
                | (go_at_call 21; go_loud (refine HA.out.mono ?_; rintro e_ w1 ⟨rfl, hb1⟩; have HB1 := Lib.hid hb1; clear hb1)))
              go_ret
              exact ⟨rfl, HB1.out⟩
            · have c6' : ¬ 1000000 < (v : Int) := by omega
              have hk1 : (k : Int) ≤ (s.size : Int) := by have := HSZ.out; omega
              have hk2 : k ≤ s.size := by omega
              obtain ⟨t2, ht2⟩ : ∃ t2, s.extract k s.size = t2 := ⟨_, rfl⟩
              have HT2 := Lib.hid (show t2.data.toList = s.data.toList.drop k by rw [← ht2, Lib.extract_data, List.take_of_length_le (by rw [List.length_drop, HSZ.out]; omega)])
              have HTS := Lib.hid (show t2.size ≤ 4294967296 by
                have e : t2.data.toList.length = t2.size := by rw [Array.length_toList]; rfl
                rw [← e, HT2.out, List.length_drop, HSZ.out]; omega)
              have hvw : wrap64 (v : Int) = (v : Int) := by unfold wrap64; omega
              cases hv2 : vrd 0 0 (s.data.toList.drop k) with
              | none =>
                have HC2 := Lib.hid (fun W => codVarRead_any t2 W HTS.out none (by rw [HT2.out]; exact hv2))
                simp only [cvr] at HC2
                have HD := Lib.hid (sho_bad w.heap.size pe pl m s w HK.out.2.2 he (Nat.le_refl _) (rsh_none2 hv hv2))
                clear he hn h1 c1 c2 hv hv2 f1 f2 f3 f4 c6
                go_enter Tryd.func15, Tryd.ntmps15
                go_wp2_with (first
                  | (go_at_call 37; (first | ((with_reducible refine (HC1.out _).mono ?_); rintro e_ w0 ⟨rfl, rfl⟩) | ((with_reducible refine (HC2.out _).mono ?_); rintro e_ w0 ⟨rfl, rfl⟩)))
                  | (go_at_call 38; go_loud (refine (HD.out).mono ?_; rintro e_ w1 ⟨i1, s1, rfl, hs1, hb1⟩; have hne1 := ne_empty hs1; have HB1 := Lib.hid hb1; clear hb1 hs1))
                  | (go_at_call 21; go_loud (refine (awake_any w.heap.size pe pl _ (HE.out.below HB1.out) HB1.out.size).mono ?_; rintro e_ w2 ⟨rfl, hb2⟩; have HB2 := Lib.hid (HB1.out.trans (hb2.mono HB1.out.size)); clear hb2)))
                go_ret
                exact ⟨rfl, HB2.out⟩
              | some p =>
                obtain ⟨v2, k2⟩ := p
                obtain ⟨g1, g2, g3, g4⟩ := vrd_facts _ 0 0 v2 k2 (by decide) hv2
                have HC2 := Lib.hid (fun W => codVarRead_any t2 W HTS.out (some (v2, k2)) (by rw [HT2.out]; exact hv2))
                simp only [cvr] at HC2
                by_cases c7 : 1000000 < v2
                · have c7' : 1000000 < (v2 : Int) := by omega
                  clear he hn h1 c1 c2 hv hv2 f1 f2 f3 f4 c6 c7 g1 g2 g3 g4
                  go_enter Tryd.func15, Tryd.ntmps15
                  go_wp2_with (first
                    | (go_at_call 37; (first | ((with_reducible refine (HC1.out _).mono ?_); rintro e_ w0 ⟨rfl, rfl⟩) | ((with_reducible refine (HC2.out _).mono ?_); rintro e_ w0 ⟨rfl, rfl⟩)))
                    | (go_at_call 21; go_loud (refine HA.out.mono ?_; rintro e_ w1 ⟨rfl, hb1⟩; have HB1 := Lib.hid hb1; clear hb1)))
                  go_ret
                  exact ⟨rfl, HB1.out⟩
                · have c7' : ¬ 1000000 < (v2 : Int) := by omega
                  have hvw2 : wrap64 (v2 : Int) = (v2 : Int) := by unfold wrap64; omega
                  by_cases c8 : v = m
                  · have e8 : (v : Int) = (m : Int) := by rw [c8]
                    by_cases c9 : v2 = 0
                    · have e9 : (v2 : Int) = 0 := by rw [c9]; rfl
                      obtain ⟨z, hz⟩ : ∃ z, k + k2 = z := ⟨_, rfl⟩
                      obtain ⟨hkk, hkk2⟩ := kk_fact f4 g4 hz
                      have HD := Lib.hid (sho_ok w.heap.size pe pl m s z w HK.out.2.2 he (Nat.le_refl _) (hz ▸ rsh_some hv hv2 (by rw [hvw]; exact e8) (by rw [hvw2]; exact e9)))
                      clear hz
                      have d8 : ((v : Int) != (m : Int)) = false := bne_eq_false_iff_eq.2 e8
                      have d9 : ((v2 : Int) != 0) = false := bne_eq_false_iff_eq.2 e9
                      clear e8 e9
                      clear he hn h1 c1 c2 hv hv2 f1 f2 f3 f4 c6 c7 g1 g2 g3 g4 c8 c9
                      go_enter Tryd.func15, Tryd.ntmps15
                      go_wp2_with (first
                        | (go_at_call 37; (first | ((with_reducible refine (HC1.out _).mono ?_); rintro e_ w0 ⟨rfl, rfl⟩) | ((with_reducible refine (HC2.out _).mono ?_); rintro e_ w0 ⟨rfl, rfl⟩)))
                        | (go_at_call 38; go_loud (refine (HD.out).mono ?_; rintro e_ w1 ⟨rfl, hb1⟩; have HB1 := Lib.hid hb1; clear hb1))
                        | (go_at_call 21; go_loud (refine (awake_any w.heap.size pe pl _ (HE.out.below HB1.out) HB1.out.size).mono ?_; rintro e_ w2 ⟨rfl, hb2⟩; have HB2 := Lib.hid (HB1.out.trans (hb2.mono HB1.out.size)); clear hb2)))
                      go_ret
                      exact ⟨rfl, HB2.out⟩
                    · have e9 : (v2 : Int) ≠ 0 := fun e => c9 (Int.natCast_eq_zero.1 e)
                      have HD := Lib.hid (sho_bad w.heap.size pe pl m s w HK.out.2.2 he (Nat.le_refl _) (rsh_none3 hv hv2 (by rw [hvw2]; exact e9)))
                      have d8 : ((v : Int) != (m : Int)) = false := bne_eq_false_iff_eq.2 e8
                      have d9 : ((v2 : Int) != 0) = true := bne_iff_ne.2 e9
                      clear e8 e9
                      clear he hn h1 c1 c2 hv hv2 f1 f2 f3 f4 c6 c7 g1 g2 g3 g4 c8 c9
                      go_enter Tryd.func15, Tryd.ntmps15
                      go_wp2_with (first
                        | (go_at_call 37; (first | ((with_reducible refine (HC1.out _).mono ?_); rintro e_ w0 ⟨rfl, rfl⟩) | ((with_reducible refine (HC2.out _).mono ?_); rintro e_ w0 ⟨rfl, rfl⟩)))
                        | (go_at_call 38; go_loud (refine (HD.out).mono ?_; rintro e_ w1 ⟨i1, s1, rfl, hs1, hb1⟩; have hne1 := ne_empty hs1; have HB1 := Lib.hid hb1; clear hb1 hs1))
                        | (go_at_call 21; go_loud (refine (awake_any w.heap.size pe pl _ (HE.out.below HB1.out) HB1.out.size).mono ?_; rintro e_ w2 ⟨rfl, hb2⟩; have HB2 := Lib.hid (HB1.out.trans (hb2.mono HB1.out.size)); clear hb2)))
                      go_ret
                      exact ⟨rfl, HB2.out⟩
                  · have e8 : (v : Int) ≠ (m : Int) := fun e => c8 (Int.ofNat.inj e)
                    have HD := Lib.hid (sho_bad w.heap.size pe pl m s w HK.out.2.2 he (Nat.le_refl _) (rsh_none1 hv (by rw [hvw]; exact e8)))
                    have d8 : ((v : Int) != (m : Int)) = true := bne_iff_ne.2 e8
                    clear e8
                    clear he hn h1 c1 c2 hv hv2 f1 f2 f3 f4 c6 c7 g1 g2 g3 g4 c8
                    go_enter Tryd.func15, Tryd.ntmps15
                    go_wp2_with (first
                      | (go_at_call 37; (first | ((with_reducible refine (HC1.out _).mono ?_); rintro e_ w0 ⟨rfl, rfl⟩) | ((with_reducible refine (HC2.out _).mono ?_); rintro e_ w0 ⟨rfl, rfl⟩)))
                      | (go_at_call 38; go_loud (refine (HD.out).mono ?_; rintro e_ w1 ⟨i1, s1, rfl, hs1, hb1⟩; have hne1 := ne_empty hs1; have HB1 := Lib.hid hb1; clear hb1 hs1))
                      | (go_at_call 21; go_loud (refine (awake_any w.heap.size pe pl _ (HE.out.below HB1.out) HB1.out.size).mono ?_; rintro e_ w2 ⟨rfl, hb2⟩; have HB2 := Lib.hid (HB1.out.trans (hb2.mono HB1.out.size)); clear hb2)))
                    go_ret
                    exact ⟨rfl, HB2.out⟩
end Go.Proofs.YtgdbeiadlgkedaaDoor
