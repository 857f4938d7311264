/- The statement's cases on the reading of a row's header. -/
import Derived.Test.YtgdbeiadlgkedaaDoorL16
namespace Go.Proofs.YtgdbeiadlgkedaaDoor
open Go.RowKit
set_option linter.unusedVariables false
set_option linter.unusedSimpArgs false

set_option maxHeartbeats 4000000 in
set_option maxRecDepth 100000 in
theorem rowRead_row (pe pl : Addr) (s : ByteArray) (w : World) (he : Env w.heap.size pe pl w) :
    Calls Tryd.prog 16 #[.string s] w fun e w' => e = .returned (.bool true) ∧ Below w.heap.size w w' := by
  by_cases h1 : 2147483647 < s.size
  · have hc : 2147483647 < (s.size : Int) := Int.ofNat_lt.2 h1
    clear he h1
    go_enter Tryd.func16, Tryd.ntmps16
    go_wp2
    go_ret
    exact ⟨rfl, Below.refl _ w⟩
  · have hc : ¬ 2147483647 < (s.size : Int) := fun e => h1 (Int.ofNat_lt.1 e)
    by_cases h2 : 400 < s.size
    · have hc2 : 400 < (s.size : Int) := Int.ofNat_lt.2 h2
      have HA := Lib.hid (awake_any w.heap.size pe pl w he (Nat.le_refl _))
      clear he h1 h2
      go_enter Tryd.func16, Tryd.ntmps16
      go_wp2_with (go_at_call 21; go_loud (refine HA.out.mono ?_; rintro e_ w1 ⟨rfl, hb1⟩; have HB1 := Lib.hid hb1; clear hb1))
      go_ret
      exact ⟨rfl, HB1.out⟩
    · have hs : s.size ≤ 400 := elim_le h2
      clear hc h1 h2
      have hsz : s.data.toList.length = s.size := by rw [Array.length_toList]; rfl
      cases hv : vrd 0 0 s.data.toList with
      | none =>
        exact rr_bad pe pl s w hs he (rho_A s w hs hv) (fun W hW => rhI_bad w.heap.size pe pl s W hs (he.below hW) hW.size (fun r w1 a1 a2 a3 a4 => rrh_A w.heap.size pe pl r _ _ w1 a1 a2 a3 a4 hv))
      | some p =>
        obtain ⟨v, k⟩ := p
        cases hv2 : vrd 0 0 (s.data.toList.drop k) with
        | none =>
          exact rr_bad pe pl s w hs he (rho_B s w hs v k hv hv2) (fun W hW => rhI_bad w.heap.size pe pl s W hs (he.below hW) hW.size (fun r w1 a1 a2 a3 a4 => rrh_B w.heap.size pe pl r _ _ w1 a1 a2 a3 a4 v k hv hv2))
        | some p =>
          obtain ⟨v2, k2⟩ := p
          by_cases c1 : 1000000 < v
          · exact rr_skip pe pl s w hs he (rho_C1 s w hs v k v2 k2 hv hv2 c1)
          · by_cases c2 : 1000000 < v2
            · exact rr_skip pe pl s w hs he (rho_C2 s w hs v k v2 k2 hv hv2 c1 c2)
            · by_cases hd : v < v2
              · exact rr_bad pe pl s w hs he (rho_D1 s w hs v k v2 k2 hv hv2 c1 c2 hd) (fun W hW => rhI_bad w.heap.size pe pl s W hs (he.below hW) hW.size (fun r w1 a1 a2 a3 a4 => rrh_D1 w.heap.size pe pl r _ _ w1 a1 a2 a3 a4 v k v2 k2 hv hv2 c1 c2 hd))
              · by_cases hz : v2 = 0
                · subst hz
                  obtain ⟨f1, f2, f3, f4⟩ := vrd_facts _ 0 0 v k (by decide) hv
                  obtain ⟨g1, g2, g3, g4⟩ := vrd_facts _ 0 0 0 k2 (by decide) hv2
                  have hl : ¬ s.size < k + k2 + 0 := by
                    rw [List.length_drop, hsz] at g3
                    rw [hsz] at f3
                    clear hv hv2 he f1 g1
                    omega
                  have e0 : s.extract (k + k2) (k + k2) = ⟨#[]⟩ := by apply str_ext; rw [Lib.extract_data, Nat.sub_self, List.take_zero]
                  have hh := rho_E s w hs v k 0 k2 hv hv2 c1 c2 hd hl (k + k2) (k + k2) rfl rfl
                  rw [e0] at hh
                  exact rr_good pe pl s w hs he v (k + k2) ⟨#[]⟩ false (by rw [ByteArray.toList_eq]; rfl) hh (fun W hW => rhI_E0 w.heap.size pe pl s W hs (he.below hW) hW.size v (k + k2) (fun r w1 a1 a2 a3 a4 => rrh_E0 w.heap.size pe pl r _ _ w1 a1 a2 a3 a4 v k k2 hv hv2 c1))
                · by_cases hl : k + k2 + v2 ≤ s.data.toList.length
                  · have hl2 : ¬ s.size < k + k2 + v2 := by rw [hsz] at hl; exact Nat.not_lt.2 hl
                    have hbl : ((s.data.toList.drop (k + k2)).take v2).length = v2 := by
                      rw [List.length_take, List.length_drop]
                      clear hv hv2 he
                      omega
                    have e0 : s.extract (k + k2) (k + k2 + v2) = ⟨((s.data.toList.drop (k + k2)).take v2).toArray⟩ := by apply str_ext; rw [Lib.extract_data, Nat.add_sub_cancel_left]
                    have hh := rho_E s w hs v k v2 k2 hv hv2 c1 c2 hd hl2 (k + k2) (k + k2 + v2) rfl rfl
                    rw [e0] at hh
                    exact rr_good pe pl s w hs he v (k + k2 + v2) _ true (ne_empty (by intro e; rw [show (⟨((s.data.toList.drop (k + k2)).take v2).toArray⟩ : ByteArray).data.toList = (s.data.toList.drop (k + k2)).take v2 from by simp] at e; rw [e] at hbl; exact hz hbl.symm)) hh (fun W hW => rhI_E1 w.heap.size pe pl s W hs (he.below hW) hW.size v v2 (k + k2 + v2) _ hbl (fun r w1 a1 a2 a3 a4 => rrh_E1 w.heap.size pe pl r _ _ w1 a1 a2 a3 a4 v k v2 k2 hv hv2 c1 c2 hd hz hl))
                  · have hl2 : s.size < k + k2 + v2 := by rw [hsz] at hl; exact Nat.lt_of_not_le hl
                    exact rr_bad pe pl s w hs he (rho_D2 s w hs v k v2 k2 hv hv2 c1 c2 hd hl2) (fun W hW => rhI_bad w.heap.size pe pl s W hs (he.below hW) hW.size (fun r w1 a1 a2 a3 a4 => rrh_D2 w.heap.size pe pl r _ _ w1 a1 a2 a3 a4 v k v2 k2 hv hv2 c1 c2 hd hz hl))
end Go.Proofs.YtgdbeiadlgkedaaDoor
