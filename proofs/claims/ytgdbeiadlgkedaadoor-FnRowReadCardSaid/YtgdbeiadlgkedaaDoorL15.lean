/- The walk of the statement on the reading of a row's header. -/
import Derived.Test.YtgdbeiadlgkedaaDoorL14
import Derived.WalkSmall
namespace Go.Proofs.YtgdbeiadlgkedaaDoor
open Go.RowKit
set_option linter.unusedVariables false
set_option linter.unusedSimpArgs false

theorem conv_backN (W : World) (d n : Nat) (l : List UInt8) (h : At W ⟨d, 0, none⟩ l) (hl : l.length = n) (m : Nat) :
    (convert 29 9 (.slice (some ⟨d, 0, none⟩) n n)).run Tryd.prog (W.drewN m) = .ok (.string ⟨l.toArray⟩) (W.drewN m) := by
  subst hl
  exact run_convert_bytes_back (P := Tryd.prog) (W.drewN m) 29 9 5 ⟨d, 0, none⟩ l.length l Tryd.underlying29 Tryd.underlying5 Tryd.underlying9 (fun j hj => by
    rw [Lib.addr_add]
    exact h.get (List.getElem?_eq_getElem hj))
set_option maxHeartbeats 4000000 in
set_option maxRecDepth 100000 in
theorem rhI_E0 (B : Nat) (pe pl : Addr) (t : ByteArray) (w : World) (ht : t.size ≤ 400) (he : Env B pe pl w) (hB : B ≤ w.heap.size) (v K : Nat) (hC : ∀ (r : Nat) (w1 : World), Rd r w.heap.size t.data.toList 0 w1 → Env B pe pl w1 → B ≤ r → B ≤ w1.heap.size → Calls Tryd.prog 90 #[rdI r] w1 fun e w' => e = .returned (.tuple #[.int .i64 v, .slice none 0 0, .nilIface]) ∧ w1.grownBy w' (some r) ∧ Rd r w.heap.size t.data.toList K w') :
    Calls Tryd.prog 40 #[.string t] w fun e w' => e = .returned (.tuple #[.int .i64 v, .string ⟨#[]⟩, .bool false, .int .i64 K, .string ⟨#[]⟩]) ∧ Below w.heap.size w w' := by
  have kc := conv_bytes
  have kz := conv_none
  have HS := Lib.hid (And.intro ht (And.intro hB he))
  clear ht he hB
  have HC := Lib.hid hC
  clear hC
  go_enter Tryd.func40, Tryd.ntmps40
  go_wp2_with (first
    | (go_at_call 45; go_loud (refine (newRd_any w w.heap.size rfl t (Nat.le_trans HS.out.1 (by decide))).mono ?_; rintro e_ w1 ⟨r, rfl, hr1, hr2, hr3⟩; have HR := Lib.hid (And.intro hr1 (And.intro hr2 hr3)); clear hr1 hr2 hr3))
    | (go_at_call 90; go_loud (obtain ⟨a1, a2, a3⟩ := rn_start HS.out.2.1 HS.out.2.2 HR.out.2.1 HR.out.2.2; refine (HC.out r w1 HR.out.1 a1 a2 a3).mono ?_; clear a1 a2 a3; rintro e_ w2 ⟨rfl, h2, h3⟩; have HB := Lib.hid (HR.out.2.1.trans (grown_below h2 HR.out.2.1.size (Nat.le_of_lt HR.out.2.2))); have HRD := Lib.hid h3; obtain ⟨L, hL⟩ : ∃ L, Hid (t.data.toList.length - K = L) := ⟨_, Lib.hid rfl⟩; have qs : (t.size : Int) - (L : Int) = (K : Int) := (by have h1 := h3.le; have h2 : t.data.toList.length = t.size := (by rw [Array.length_toList]; rfl); have := hL.out; omega); have qs2 : IntKind.i64.wrap (K : Int) = (K : Int) := IntWalk.i64_in _ (by have := h3.le; have := h3.len; omega); have qs3 : wrap64 (K : Int) = (K : Int) := IntWalk.wrap64_in _ (by have := h3.le; have := h3.len; omega); clear h2 h3)))
  go_region_with (first
    | (go_at_call 62; refine (len_any r w.heap.size t.data.toList K _ ?rd).mono ?_; (case rd => exact HRD.out.drewN 1); rw [hL.out]; rintro e_ w4 ⟨rfl, q4, rfl⟩)
    | (go_at_call 63; refine (word_nil _).mono ?_; rintro e_ w5 ⟨rfl, rfl⟩))
  all_goals
    go_wp2
    exact bodyPost_ret (v := .tuple #[.int .i64 v, .string ⟨#[]⟩, .bool false, .int .i64 K, .string ⟨#[]⟩]) (by simp [results, Tryd.results40, go_sem]; try rfl) rfl ⟨rfl, below_drewN HB.out (1 + q4)⟩
set_option maxHeartbeats 4000000 in
set_option maxRecDepth 100000 in
theorem rhI_E1 (B : Nat) (pe pl : Addr) (t : ByteArray) (w : World) (ht : t.size ≤ 400) (he : Env B pe pl w) (hB : B ≤ w.heap.size) (v n K : Nat) (bs : List UInt8) (hbs : bs.length = n) (hC : ∀ (r : Nat) (w1 : World), Rd r w.heap.size t.data.toList 0 w1 → Env B pe pl w1 → B ≤ r → B ≤ w1.heap.size → Calls Tryd.prog 90 #[rdI r] w1 fun e w' => ∃ d : Nat, e = .returned (.tuple #[.int .i64 v, .slice (some ⟨d, 0, none⟩) n n, .nilIface]) ∧ At w' ⟨d, 0, none⟩ bs ∧ w1.grownBy w' (some r) ∧ Rd r w.heap.size t.data.toList K w') :
    Calls Tryd.prog 40 #[.string t] w fun e w' => e = .returned (.tuple #[.int .i64 v, .string ⟨bs.toArray⟩, .bool true, .int .i64 K, .string ⟨#[]⟩]) ∧ Below w.heap.size w w' := by
  have kc := conv_bytes
  have kz := conv_none
  have HS := Lib.hid (And.intro ht (And.intro hB he))
  clear ht he hB
  have HC := Lib.hid hC
  have HBS := Lib.hid hbs
  clear hC hbs
  go_enter Tryd.func40, Tryd.ntmps40
  go_wp2_with (first
    | (go_at_call 45; go_loud (refine (newRd_any w w.heap.size rfl t (Nat.le_trans HS.out.1 (by decide))).mono ?_; rintro e_ w1 ⟨r, rfl, hr1, hr2, hr3⟩; have HR := Lib.hid (And.intro hr1 (And.intro hr2 hr3)); clear hr1 hr2 hr3))
    | (go_at_call 90; go_loud (obtain ⟨a1, a2, a3⟩ := rn_start HS.out.2.1 HS.out.2.2 HR.out.2.1 HR.out.2.2; refine (HC.out r w1 HR.out.1 a1 a2 a3).mono ?_; clear a1 a2 a3; rintro e_ w2 ⟨d, rfl, h1, h2, h3⟩; have kb := conv_back w2 d n bs h1 HBS.out; have kbN := conv_backN w2 d n bs h1 HBS.out; have HB := Lib.hid (HR.out.2.1.trans (grown_below h2 HR.out.2.1.size (Nat.le_of_lt HR.out.2.2))); have HRD := Lib.hid h3; obtain ⟨L, hL⟩ : ∃ L, Hid (t.data.toList.length - K = L) := ⟨_, Lib.hid rfl⟩; have qs : (t.size : Int) - (L : Int) = (K : Int) := (by have h1 := h3.le; have h2 : t.data.toList.length = t.size := (by rw [Array.length_toList]; rfl); have := hL.out; omega); have qs2 : IntKind.i64.wrap (K : Int) = (K : Int) := IntWalk.i64_in _ (by have := h3.le; have := h3.len; omega); have qs3 : wrap64 (K : Int) = (K : Int) := IntWalk.wrap64_in _ (by have := h3.le; have := h3.len; omega); clear h1 h2 h3)))
  go_region_with (first
    | (go_at_call 62; refine (len_any r w.heap.size t.data.toList K _ ?rd).mono ?_; (case rd => exact HRD.out.drewN 1); rw [hL.out]; rintro e_ w4 ⟨rfl, q4, rfl⟩)
    | (go_at_call 63; refine (word_nil _).mono ?_; rintro e_ w5 ⟨rfl, rfl⟩))
  all_goals
    go_wp2
    exact bodyPost_ret (v := .tuple #[.int .i64 v, .string ⟨bs.toArray⟩, .bool true, .int .i64 K, .string ⟨#[]⟩]) (by simp [results, Tryd.results40, go_sem]; try rfl) rfl ⟨rfl, below_drewN HB.out (1 + q4)⟩
set_option maxHeartbeats 4000000 in
set_option maxRecDepth 100000 in
theorem rhI_bad (B : Nat) (pe pl : Addr) (t : ByteArray) (w : World) (ht : t.size ≤ 400) (he : Env B pe pl w) (hB : B ≤ w.heap.size) (hC : ∀ (r : Nat) (w1 : World), Rd r w.heap.size t.data.toList 0 w1 → Env B pe pl w1 → B ≤ r → B ≤ w1.heap.size → Calls Tryd.prog 90 #[rdI r] w1 fun e w' => ∃ (x : Int) (ev : Value), e = .returned (.tuple #[.int .i64 x, .slice none 0 0, ev]) ∧ Fell r w.heap.size t.data.toList w1 w' ev) :
    Calls Tryd.prog 40 #[.string t] w fun e w' => ∃ (x : Int) (i : Nat) (s : ByteArray), e = .returned (.tuple #[.int .i64 x, .string ⟨#[]⟩, .bool false, .int .i64 i, .string s]) ∧ s.data.toList ≠ [] ∧ Below w.heap.size w w' := by
  have kc := conv_bytes
  have kz := conv_none
  have HS := Lib.hid (And.intro ht (And.intro hB he))
  clear ht he hB
  have HC := Lib.hid hC
  clear hC
  go_enter Tryd.func40, Tryd.ntmps40
  go_wp2_with (first
    | (go_at_call 45; go_loud (refine (newRd_any w w.heap.size rfl t (Nat.le_trans HS.out.1 (by decide))).mono ?_; rintro e_ w1 ⟨r, rfl, hr1, hr2, hr3⟩; have HR := Lib.hid (And.intro hr1 (And.intro hr2 hr3)); clear hr1 hr2 hr3))
    | (go_at_call 90; go_loud (obtain ⟨a1, a2, a3⟩ := rn_start HS.out.2.1 HS.out.2.2 HR.out.2.1 HR.out.2.2; refine (HC.out r w1 HR.out.1 a1 a2 a3).mono ?_; clear a1 a2 a3; rintro e_ w2 ⟨x, ev, rfl, h2, h4, K, h3⟩; obtain ⟨a, s, rfl, h6⟩ : ∃ a s, ev = errV a ∧ Hid (w2.cell? a = some (.string s) ∧ s.data.toList ≠ []) := (by obtain ⟨a, s, e1, e2, e3⟩ := h4; exact ⟨a, s, e1, Lib.hid ⟨e2, e3⟩⟩); have HEW := h6; have HB := Lib.hid (HR.out.2.1.trans (grown_below h2 HR.out.2.1.size (Nat.le_of_lt HR.out.2.2))); have HRD := Lib.hid h3; obtain ⟨L, hL⟩ : ∃ L, Hid (t.data.toList.length - K = L) := ⟨_, Lib.hid rfl⟩; have qs : (t.size : Int) - (L : Int) = (K : Int) := (by have h1 := h3.le; have h2 : t.data.toList.length = t.size := (by rw [Array.length_toList]; rfl); have := hL.out; omega); have qs2 : IntKind.i64.wrap (K : Int) = (K : Int) := IntWalk.i64_in _ (by have := h3.le; have := h3.len; omega); have qs3 : wrap64 (K : Int) = (K : Int) := IntWalk.wrap64_in _ (by have := h3.le; have := h3.len; omega); clear h2 h3 h4 h6)))
  go_region_with (first
    | (go_at_call 62; refine (len_any r w.heap.size t.data.toList K _ ?rd).mono ?_; (case rd => exact HRD.out.drewN 1); rw [hL.out]; rintro e_ w4 ⟨rfl, q4, rfl⟩)
    | (go_at_call 63; refine (word_err a s _ ?wd).mono ?_; (case wd => exact HEW.out.1); rintro e_ w5 ⟨rfl, rfl⟩))
  all_goals
    go_wp2
    exact bodyPost_ret (v := .tuple #[.int .i64 x, .string ⟨#[]⟩, .bool false, .int .i64 (K : Nat), .string s]) (by simp [results, Tryd.results40, go_sem]; try rfl) rfl ⟨x, K, s, rfl, HEW.out.2, below_drewN HB.out (1 + q4)⟩
end Go.Proofs.YtgdbeiadlgkedaaDoor
