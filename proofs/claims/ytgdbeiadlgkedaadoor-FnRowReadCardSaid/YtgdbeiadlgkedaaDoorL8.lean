/- The walk of the statement on reads of n bytes: the door and the law. -/
import Derived.Test.YtgdbeiadlgkedaaDoorL7
namespace Go.Proofs.YtgdbeiadlgkedaaDoor
open Go.RowKit
open Go.Joins (below_bytesWorld)
set_option linter.unusedVariables false
set_option linter.unusedSimpArgs false

theorem conv_back (W : World) (d n : Nat) (l : List UInt8) (h : At W ⟨d, 0, none⟩ l) (hl : l.length = n) :
    (convert 29 9 (.slice (some ⟨d, 0, none⟩) n n)).run Tryd.prog W.drew = .ok (.string ⟨l.toArray⟩) W.drew := by
  subst hl
  exact run_convert_bytes_back (P := Tryd.prog) W.drew 29 9 5 ⟨d, 0, none⟩ l.length l Tryd.underlying29 Tryd.underlying5 Tryd.underlying9 (fun j hj => by
    rw [Lib.addr_add]
    exact h.get (List.getElem?_eq_getElem hj))
theorem rn_start {w w1 : World} {B r : Nat} {pe pl : Addr} (hB : B ≤ w.heap.size) (he : Env B pe pl w) (hw : Below w.heap.size w w1) (hr : w.heap.size < r) : Env B pe pl w1 ∧ B ≤ r ∧ B ≤ w1.heap.size :=
  ⟨he.below (hw.mono hB), by omega, by have := hw.size; omega⟩
set_option maxHeartbeats 4000000 in
set_option maxRecDepth 100000 in
theorem implReadN_some (s : ByteArray) (n : Nat) (w : World) (hs : s.size ≤ 4294967296) (hn0 : 0 < n) (hn : n ≤ s.size) (hn2 : n ≤ 1000000) :
    Calls Tryd.prog 34 #[.string s, .int .i64 n] w fun e w' => e = .returned (.tuple #[.string (s.extract 0 n), .string ⟨#[]⟩]) ∧ Below w.heap.size w w' := by
  have kc := conv_bytes
  have HS := Lib.hid (And.intro hs (And.intro hn0 (And.intro hn hn2)))
  have HL := Lib.hid (show s.data.toList.length = s.size by rw [Array.length_toList]; rfl)
  have HX := Lib.hid (show (⟨(s.data.toList.take n).toArray⟩ : ByteArray) = s.extract 0 n by apply Eq.symm; apply str_ext; rw [Lib.extract_data, List.drop_zero, Nat.sub_zero])
  clear hs hn0 hn hn2
  go_enter Tryd.func34, Tryd.ntmps34
  go_wp2_with (first
    | (go_at_call 45; go_loud (refine (newRd_any w w.heap.size rfl s HS.out.1).mono ?_; rintro e_ w1 ⟨r, rfl, hr1, hr2, hr3⟩; have HR := Lib.hid (And.intro hr1 (And.intro hr2 hr3)); clear hr1 hr2 hr3))
    | (go_at_call 87; go_loud (refine (readN_some r w.heap.size s.data.toList n w1 HR.out.1 HS.out.2.1 (by rw [HL.out]; exact HS.out.2.2.1) HS.out.2.2.2).mono ?_; rintro e_ w2 ⟨rfl, h1, h2⟩; have kb := conv_back w2 w1.heap.size n _ h1 (by rw [List.length_take, HL.out]; exact Nat.min_eq_left HS.out.2.2.1); rw [HX.out] at kb; have HB := Lib.hid (HR.out.2.1.trans (grown_below h2 HR.out.2.1.size (Nat.le_of_lt HR.out.2.2))); clear h1 h2)))
  go_region_with (go_at_call 63; refine (word_nil _).mono ?_; rintro e_ w5 ⟨rfl, rfl⟩)
  all_goals
    go_wp2
    go_ret2
    exact ⟨rfl, HB.out.drew⟩
theorem conv_none : ∀ (W : World), (convert 29 9 (.slice none 0 0)).run Tryd.prog W = .ok (.string ⟨#[]⟩) W := fun W => by kernel_rfl
theorem conv_zero (W : World) (d : Nat) :
    (convert 29 9 (.slice (some ⟨d, 0, none⟩) 0 0)).run Tryd.prog W.drew = .ok (.string ⟨#[]⟩) W.drew := conv_back W d 0 [] (At.mk fun j x hj => by simp at hj) rfl
set_option maxHeartbeats 4000000 in
set_option maxRecDepth 100000 in
theorem implReadN_zero (s : ByteArray) (B : Nat) (pe pl : Addr) (w : World) (hs : s.size ≤ 4294967296) (hB : B ≤ w.heap.size) (he : Env B pe pl w) :
    Calls Tryd.prog 34 #[.string s, .int .i64 0] w fun e w' => e = .returned (.tuple #[.string ⟨#[]⟩, .string ⟨#[]⟩]) ∧ Below w.heap.size w w' := by
  have kc := conv_bytes
  have kz := conv_zero
  have HS := Lib.hid (And.intro hs (And.intro hB he))
  clear hs hB he
  have HC : Hid (∀ (r : Nat) (w1 : World), Rd r w.heap.size s.data.toList 0 w1 → Env B pe pl w1 → Calls Tryd.prog 87 #[rdI r, .int .i64 0] w1 fun e w' => e = .returned (.tuple #[.slice (some ⟨w1.heap.size, 0, none⟩) 0 0, .nilIface]) ∧ w1.grownBy w' (some r)) := Lib.hid (fun r w1 h1 h2 => by
    by_cases h0 : s.data.toList.length = 0
    · exact readN_zero0 r w.heap.size s.data.toList _ w1 (by rw [h0]; exact h1) h2.eof
    · exact readN_zero r w.heap.size s.data.toList w1 h1 (by omega))
  go_enter Tryd.func34, Tryd.ntmps34
  go_wp2_with (first
    | (go_at_call 45; go_loud (refine (newRd_any w w.heap.size rfl s HS.out.1).mono ?_; rintro e_ w1 ⟨r, rfl, hr1, hr2, hr3⟩; have HR := Lib.hid (And.intro hr1 (And.intro hr2 hr3)); clear hr1 hr2 hr3))
    | (go_at_call 87; go_loud (refine (HC.out r w1 HR.out.1 (rn_start HS.out.2.1 HS.out.2.2 HR.out.2.1 HR.out.2.2).1).mono ?_; rintro e_ w2 ⟨rfl, h2⟩; have HB := Lib.hid (HR.out.2.1.trans (grown_below h2 HR.out.2.1.size (Nat.le_of_lt HR.out.2.2))); clear h2)))
  go_region_with (go_at_call 63; refine (word_nil _).mono ?_; rintro e_ w5 ⟨rfl, rfl⟩)
  all_goals
    go_wp2
    go_ret2
    exact ⟨rfl, HB.out.drew⟩
set_option maxHeartbeats 4000000 in
set_option maxRecDepth 100000 in
theorem implReadN_bad (s : ByteArray) (n : Nat) (B : Nat) (pe pl : Addr) (w : World) (hs : s.size ≤ 4294967296) (hB : B ≤ w.heap.size) (he : Env B pe pl w) (hn : s.size < n) (hn2 : n ≤ 1000000) :
    Calls Tryd.prog 34 #[.string s, .int .i64 n] w fun e w' => ∃ es : ByteArray, e = .returned (.tuple #[.string ⟨#[]⟩, .string es]) ∧ es.data.toList ≠ [] ∧ Below w.heap.size w w' := by
  have kc := conv_bytes
  have kz := conv_none
  have HS := Lib.hid (And.intro hs (And.intro hB he))
  have HN := Lib.hid (And.intro hn hn2)
  have HL := Lib.hid (show s.data.toList.length = s.size by rw [Array.length_toList]; rfl)
  clear hs hB he hn hn2
  have HC : Hid (∀ (r : Nat) (w1 : World), Rd r w.heap.size s.data.toList 0 w1 → w.heap.size < r → Env B pe pl w1 → Calls Tryd.prog 87 #[rdI r, .int .i64 n] w1 fun e w' => e = .returned (.tuple #[.slice none 0 0, errV pe]) ∧ w1.grownBy w' (some r)) := Lib.hid (fun r w1 h1 hr h2 => by
    by_cases h0 : s.data.toList.length = 0
    · exact readN_eof r w.heap.size s.data.toList n _ _ w1 (by rw [h0]; exact h1) h2.eof (by have := HN.out; omega) HN.out.2
    · exact readN_few r w.heap.size s.data.toList n _ _ w1 h1 (by omega) (by rw [HL.out]; exact HN.out.1) h2.eof (by have := h2.b0; have := HS.out.2.1; omega) HN.out.2)
  go_enter Tryd.func34, Tryd.ntmps34
  go_wp2_with (first
    | (go_at_call 45; go_loud (refine (newRd_any w w.heap.size rfl s HS.out.1).mono ?_; rintro e_ w1 ⟨r, rfl, hr1, hr2, hr3⟩; have HR := Lib.hid (And.intro hr1 (And.intro hr2 hr3)); clear hr1 hr2 hr3))
    | (go_at_call 87; go_loud (refine (HC.out r w1 HR.out.1 HR.out.2.2 (rn_start HS.out.2.1 HS.out.2.2 HR.out.2.1 HR.out.2.2).1).mono ?_; rintro e_ w2 ⟨rfl, h2⟩; have HB0 := Lib.hid (HR.out.2.1.trans (grown_below h2 HR.out.2.1.size (Nat.le_of_lt HR.out.2.2))); clear h2)))
  obtain ⟨es, hes, hne⟩ := (HS.out.2.2.below (HB0.out.mono HS.out.2.1)).te
  have HES := Lib.hid (And.intro hes hne)
  clear hes hne
  go_region_with (go_at_call 63; refine (word_err pe es _ ?wd).mono ?_; (case wd => exact HES.out.1); rintro e_ w5 ⟨rfl, rfl⟩)
  all_goals
    go_wp2
    go_ret2
    exact ⟨es, rfl, HES.out.2, HB0.out.drew⟩
set_option maxHeartbeats 4000000 in
set_option maxRecDepth 100000 in
theorem readN_row (pe pl : Addr) (s : ByteArray) (f : Int) (w : World) (hf : (Lit.int .i64 f).wf = true) (he : Env w.heap.size pe pl w) :
    Calls Tryd.prog 13 #[.string s, .int .i64 f] w fun e w' => e = .returned (.bool true) ∧ Below w.heap.size w w' := by
  have HE := Lib.hid he
  by_cases h1 : 2147483647 < s.size
  · have hc : 2147483647 < (s.size : Int) := by omega
    clear he hf h1
    go_enter Tryd.func13, Tryd.ntmps13
    go_wp2
    go_ret
    exact ⟨rfl, Below.refl _ w⟩
  · have hc : ¬ 2147483647 < (s.size : Int) := by omega
    have HA := Lib.hid (awake_any w.heap.size pe pl w he (Nat.le_refl _))
    by_cases h2 : 400 < s.size
    · have hc2 : 400 < (s.size : Int) := by omega
      clear he hf h1 h2
      go_enter Tryd.func13, Tryd.ntmps13
      go_wp2_with (go_at_call 21; go_loud (refine HA.out.mono ?_; rintro e_ w1 ⟨rfl, hb1⟩; have HB1 := Lib.hid hb1; clear hb1))
      go_ret
      exact ⟨rfl, HB1.out⟩
    · have hc2 : ¬ 400 < (s.size : Int) := by omega
      by_cases h3 : f < 0
      · clear he hf h1 h2
        go_enter Tryd.func13, Tryd.ntmps13
        go_wp2_with (go_at_call 21; go_loud (refine HA.out.mono ?_; rintro e_ w1 ⟨rfl, hb1⟩; have HB1 := Lib.hid hb1; clear hb1))
        go_ret
        exact ⟨rfl, HB1.out⟩
      · by_cases h4 : 1000000 < f
        · clear he hf h1 h2
          go_enter Tryd.func13, Tryd.ntmps13
          go_wp2_with (go_at_call 21; go_loud (refine HA.out.mono ?_; rintro e_ w1 ⟨rfl, hb1⟩; have HB1 := Lib.hid hb1; clear hb1))
          go_ret
          exact ⟨rfl, HB1.out⟩
        · obtain ⟨k, rfl⟩ := Int.eq_ofNat_of_zero_le (show 0 ≤ f by omega)
          have HF := Lib.hid (show s.size ≤ 4294967296 ∧ k ≤ 1000000 by omega)
          have h4' : ¬ 1000000 < (k : Int) := h4
          by_cases h5 : s.size < k
          · have hc5 : (s.size : Int) < (k : Int) := by omega
            have H5 := Lib.hid h5
            clear he hf h1 h2 h3 h4 h5
            go_enter Tryd.func13, Tryd.ntmps13
            go_wp2_with (first
              | (go_at_call 34; go_loud (refine (implReadN_bad s k w.heap.size pe pl w HF.out.1 (Nat.le_refl _) HE.out H5.out HF.out.2).mono ?_; rintro e_ w1 ⟨es, rfl, hes, hb1⟩; have hne1 := ne_empty hes; have HB1 := Lib.hid hb1; clear hb1 hes))
              | (go_at_call 21; go_loud (refine (awake_any w.heap.size pe pl w1 (HE.out.below HB1.out) HB1.out.size).mono ?_; rintro e_ w2 ⟨rfl, hb2⟩; have HB2 := Lib.hid (HB1.out.trans (hb2.mono HB1.out.size)); clear hb2)))
            go_ret
            exact ⟨rfl, HB2.out⟩
          · have hc5 : ¬ (s.size : Int) < (k : Int) := by omega
            have hc6 : (k : Int) ≤ (s.size : Int) := by omega
            have hc7 : k ≤ s.size := by omega
            have HC : Hid (Calls Tryd.prog 34 #[.string s, .int .i64 k] w fun e w' => e = .returned (.tuple #[.string (s.extract 0 k), .string ⟨#[]⟩]) ∧ Below w.heap.size w w') := Lib.hid (by
              by_cases h0 : k = 0
              · subst h0
                have e0 : s.extract 0 0 = ⟨#[]⟩ := by apply str_ext; rw [Lib.extract_data]; simp
                rw [e0]
                exact implReadN_zero s w.heap.size pe pl w HF.out.1 (Nat.le_refl _) HE.out
              · exact implReadN_some s k w HF.out.1 (by omega) hc7 HF.out.2)
            clear he hf h1 h2 h3 h4 h5
            go_enter Tryd.func13, Tryd.ntmps13
            go_wp2_with (first
              | (go_at_call 34; go_loud (refine HC.out.mono ?_; rintro e_ w1 ⟨rfl, hb1⟩; have HB1 := Lib.hid hb1; clear hb1))
              | (go_at_call 21; go_loud (refine (awake_any w.heap.size pe pl w1 (HE.out.below HB1.out) HB1.out.size).mono ?_; rintro e_ w2 ⟨rfl, hb2⟩; have HB2 := Lib.hid (HB1.out.trans (hb2.mono HB1.out.size)); clear hb2)))
            go_ret
            exact ⟨rfl, HB2.out⟩
end Go.Proofs.YtgdbeiadlgkedaaDoor
