/- Contracts of (time.Duration).String's functions. -/
import Derived.Test.YtdifeleddhefnaaFnE
set_option linter.unusedVariables false
set_option linter.unusedSimpArgs false
namespace Go.Proofs.Ytdifeleddhefnaa
open Go.RowKit Go.Proofs.YtdifeleddhefnaaW.PrintWords

/-- The decimal digits of a number, as bytes. -/
def dg (n : Nat) : List Int := if h : n < 10 then [48 + (n : Int)] else dg (n / 10) ++ [48 + ((n % 10 : Nat) : Int)]
termination_by n
decreasing_by omega
theorem dg_small {n : Nat} (h : n < 10) : dg n = [48 + (n : Int)] := by rw [dg, dif_pos h]
theorem dg_big {n : Nat} (h : ¬ n < 10) : dg n = dg (n / 10) ++ [48 + ((n % 10 : Nat) : Int)] := by rw [dg, dif_neg h]
/-- An array of 32 bytes whose cells from n on are the bytes t. -/
def Tl (w : World) (g n : Nat) (t : List Int) : Prop := ∃ a : Array Value, w.heap[g]? = some (.cells a 125 (0, 0)) ∧ a.size = 32 ∧ (∀ i, i < 32 → ∃ x, a[i]? = some (.int .u8 x)) ∧ n + t.length = 32 ∧ ∀ j x, t[j]? = some x → a[n + j]? = some (.int .u8 x)
theorem Tl.push {w : World} {g n : Nat} {t : List Int} (h : Tl w g (n + 1) t) (x : Int) : Tl (w.setCell ⟨g, n, none⟩ (.int .u8 x)) g n (x :: t) := by
  obtain ⟨a, h1, h2, h3, h4, h5⟩ := h
  refine ⟨a.setIfInBounds n (.int .u8 x), blk_set h1 n _, by simp [h2], fun i hi => ?_, by simp; omega, fun j y hj => ?_⟩
  · by_cases e : n = i
    · subst e; exact ⟨x, by simp [Array.getElem?_setIfInBounds, h2, hi]⟩
    · obtain ⟨z, hz⟩ := h3 i hi
      exact ⟨z, by rw [Array.getElem?_setIfInBounds, if_neg e]; exact hz⟩
  · cases j with
    | zero => simp at hj; subst hj; simp [Array.getElem?_setIfInBounds, h2]; omega
    | succ j => simp at hj; rw [Array.getElem?_setIfInBounds, if_neg (by omega)]; rw [show n + (j + 1) = n + 1 + j by omega]; exact h5 j y hj
theorem Tl.cell {w : World} {g n : Nat} {t : List Int} (h : Tl w g n t) (i : Nat) (hi : i < 32) : ∃ x, w.cell? ⟨g, i, none⟩ = some (.int .u8 x) ∧ w.frozen? ⟨g, i, none⟩ = false := by
  obtain ⟨a, h1, h2, h3, h4, h5⟩ := h
  obtain ⟨x, hx⟩ := h3 i hi
  exact ⟨x, (blk_cell h1 i).trans hx, blk_frozen h1 i⟩
/-- Only block g may have turned. -/
def Only (g : Nat) (w w' : World) : Prop := ∀ w0 : World, Below w0.heap.size w0 w → w0.heap.size ≤ g → Below w0.heap.size w0 w'
theorem Only.refl (g : Nat) (w : World) : Only g w w := fun _ h _ => h
theorem Only.set {g : Nat} {w w' : World} (h : Only g w w') (i : Nat) (v : Value) : Only g w (w'.setCell ⟨g, i, none⟩ v) := fun w0 hb hg => below_set (h w0 hb hg) hg
theorem Only.trans {g : Nat} {w w1 w2 : World} (h : Only g w w1) (h' : Only g w1 w2) : Only g w w2 := fun w0 hb hg => h' w0 (h w0 hb hg) hg
set_option maxHeartbeats 1000000 in
theorem fmtInt_zero (g n c : Nat) (t : List Int) (w : World) (h : Tl w g (n + 1) t) (hn : n < 32) (hc : n + 1 ≤ c) :
    Calls Try.prog 96 #[.slice (some ⟨g, 0, none⟩) (n + 1) c, .int .u64 0] w fun e w' => e = .returned (.int .i64 n) ∧ Tl w' g n (48 :: t) ∧ Only g w w' := by
  obtain ⟨x, hx, hf⟩ := h.cell n hn
  have H := Aside0.mk h
  clear h
  have q1 : ((n : Int) + 1 - 1) = (n : Int) := by omega
  have q2 : (n : Int) < (n : Int) + 1 := by omega
  go_enter Try.func96, Try.ntmps96
  go_wp2
  go_ret
  exact ⟨rfl, H.out.push 48, (Only.refl g w).set _ _⟩
/-- How many digits. -/
theorem dg_len (n : Nat) : 1 ≤ (dg n).length := by
  by_cases h : n < 10
  · rw [dg_small h]; simp
  · rw [dg_big h]; simp
set_option maxHeartbeats 2000000 in
theorem fmtInt_pos (g n c v : Nat) (t : List Int) (w : World) (hv : 0 < v) (hv2 : v < 18446744073709551616) (h : Tl w g (n + (dg v).length) t) (hc : n + (dg v).length ≤ c) :
    Calls Try.prog 96 #[.slice (some ⟨g, 0, none⟩) (n + (dg v).length) c, .int .u64 v] w fun e w' => e = .returned (.int .i64 n) ∧ Tl w' g n (dg v ++ t) ∧ Only g w w' := by
  have HN : n + (dg v).length ≤ 32 := by obtain ⟨a, _, _, _, h4, _⟩ := h; omega
  obtain ⟨m, hm⟩ : ∃ m, m = n + (dg v).length := ⟨_, rfl⟩
  rw [← hm] at h hc HN ⊢
  have H := Aside0.mk h
  have HM := Aside0.mk hm
  have q0 : ((v : Int) == 0) = false := beq_eq_false_iff_ne.mpr (by omega)
  have q1 : (m : Int) ≤ 32 := by omega
  clear h hm
  go_enter Try.func96, Try.ntmps96
  go_wp2
  clear q0
  go_loopg [1, 5] v (fun kq v1 v5 w' => ∃ (u k : Nat) (s : List Int), kq = u ∧ v1 = .int .u64 u ∧ v5 = .int .i64 k ∧ Aside0 (Tl w' g k (s ++ t)) ∧ Aside0 ((0 < u ∧ k = n + (dg u).length ∧ dg u ++ s = dg v) ∨ (u = 0 ∧ k = n ∧ s = dg v)) ∧ Aside0 (Only g w w') ∧ u < 18446744073709551616)
  case atStart => exact ⟨v, m, [], rfl, rfl, rfl, H, ⟨.inl ⟨hv, HM.out, by simp⟩⟩, ⟨Only.refl g w⟩, hv2⟩
  case round =>
    clear H
    obtain ⟨_, k, s, rfl, rfl, rfl, H, HK, HO, hu⟩ := hrel
    by_cases hz : 0 < gk
    · obtain ⟨hk, hs⟩ : k = n + (dg gk).length ∧ dg gk ++ s = dg v := by
        rcases HK.out with ⟨_, a, b⟩ | ⟨a, _, _⟩
        · exact ⟨a, b⟩
        · omega
      have hl := dg_len gk
      have hk32 : k ≤ 32 := by obtain ⟨a, _, _, _, h4, _⟩ := H.out; omega
      obtain ⟨k', rfl⟩ : ∃ k', k = k' + 1 := ⟨k - 1, by omega⟩
      have hkm : k' + 1 ≤ m := by have h1 := HM.out; have h2 := congrArg List.length hs; simp at h2; omega
      obtain ⟨x, hx, hf⟩ := H.out.cell k' (by omega)
      have e1 : (gk : Int).tmod 10 = ((gk % 10 : Nat) : Int) := by rw [Int.tmod_eq_emod_of_nonneg (by omega)]; omega
      have e2 : (gk : Int).tdiv 10 = ((gk / 10 : Nat) : Int) := by rw [Int.tdiv_eq_ediv_of_nonneg (by omega)]; omega
      have hd : gk % 10 < 10 := Nat.mod_lt _ (by decide)
      have HS := Aside0.mk hs
      have HKK := Aside0.mk hk
      have HL := Aside0.mk hl
      clear hs hk hl HK
      have q3 : ((k' : Int) + 1 - 1) = (k' : Int) := by omega
      have q4 : (k' : Int) < (m : Int) := by omega
      have q6 : (0 : Int) ≤ ((gk % 10 : Nat) : Int) := by omega
      have q7 : ((gk % 10 : Nat) : Int) < 10 := by omega
      obtain ⟨d, hdd⟩ : ∃ d, Aside0 (gk % 10 = d) := ⟨_, ⟨rfl⟩⟩
      rw [hdd.out] at e1 q6 q7 hd
      go_wp2
      go_roundg (gk / 10)
      case measure => omega
      case rel =>
        refine ⟨gk / 10, k', ((d : Int) + 48) :: s, rfl, by simp, rfl, ⟨H.out.push _⟩, ⟨?_⟩, ⟨HO.out.set _ _⟩, by omega⟩
        have hk := HKK.out
        have hs := HS.out
        have hd2 := hdd.out
        by_cases hb : gk < 10
        · rw [dg_small hb] at hk hs
          right
          refine ⟨by omega, by simp at hk; omega, ?_⟩
          rw [← hs]
          simp
          omega
        · rw [dg_big hb] at hk hs
          left
          refine ⟨by omega, by simp at hk; omega, ?_⟩
          rw [← hs, hd2]
          simp
          omega
    · have hz0 : gk = 0 := by omega
      subst hz0
      have hk := HK.out.resolve_left (fun h => absurd h.1 (by decide))
      obtain ⟨_, rfl, hs⟩ := hk
      have HS := Aside0.mk hs
      clear hs HK
      go_wp2
      go_ret
      exact ⟨rfl, HS.out ▸ H.out, HO.out⟩
theorem fmtInt_any (g n c v : Nat) (t : List Int) (w : World) (hv2 : v < 18446744073709551616) (h : Tl w g (n + (dg v).length) t) (hc : n + (dg v).length ≤ c) :
    Calls Try.prog 96 #[.slice (some ⟨g, 0, none⟩) (n + (dg v).length) c, .int .u64 v] w fun e w' => e = .returned (.int .i64 n) ∧ Tl w' g n (dg v ++ t) ∧ Only g w w' := by
  by_cases hv : 0 < v
  · exact fmtInt_pos g n c v t w hv hv2 h hc
  · obtain rfl : v = 0 := by omega
    have e : dg 0 = [48] := by rw [dg_small (by decide)]; rfl
    rw [e] at h hc ⊢
    have hn : n < 32 := by obtain ⟨a, _, _, _, h4, _⟩ := h; simp at h4; omega
    exact fmtInt_zero g n c t w h hn hc
/-- The loop of 'fmtFrac': k digits of v from the last on; none is written ahead of the first that is not 0; the number left, and the bytes. -/
def fr : Nat → Nat → Bool → List Int → List Int × Nat × Bool
  | 0, v, p, t => (t, v, p)
  | k + 1, v, p, t => fr k (v / 10) (p || v % 10 != 0) (if p || v % 10 != 0 then (((v % 10 : Nat) : Int) + 48) :: t else t)
theorem fr_step {k v : Nat} {p : Bool} {t : List Int} : fr (k + 1) v p t = fr k (v / 10) (p || v % 10 != 0) (if p || v % 10 != 0 then (((v % 10 : Nat) : Int) + 48) :: t else t) := rfl
set_option maxHeartbeats 4000000 in
set_option maxRecDepth 100000 in
theorem fmtFrac_any (g n c v K : Nat) (t : List Int) (w : World) (hv : v < 18446744073709551616) (hK : K ≤ 20) (hn : K + 1 ≤ n) (hc : n ≤ c) (h : Tl w g n t) :
    Calls Try.prog 95 #[.slice (some ⟨g, 0, none⟩) n c, .int .u64 v, .int .i64 K] w fun e w' => ∃ k : Nat, e = .returned (.tuple #[.int .i64 k, .int .u64 (fr K v false t).2.1]) ∧ Tl w' g k (if (fr K v false t).2.2 then 46 :: (fr K v false t).1 else (fr K v false t).1) ∧ Only g w w' := by
  have HN : n ≤ 32 := by obtain ⟨a, _, _, _, h4, _⟩ := h; omega
  have H := Aside0.mk h
  obtain ⟨F, hF⟩ : ∃ F, Aside0 (fr K v false t = F) := ⟨_, ⟨rfl⟩⟩
  rw [hF.out]
  obtain ⟨T, hT⟩ : ∃ T, Aside0 ((if F.2.2 then 46 :: F.1 else F.1) = T) := ⟨_, ⟨rfl⟩⟩
  obtain ⟨N, hN⟩ : ∃ N, Aside0 (F.2.1 = N) := ⟨_, ⟨rfl⟩⟩
  rw [hT.out, hN.out]
  clear h
  go_enter Try.func95, Try.ntmps95
  go_wp2
  go_loopg [1, 8, 9, 10] K (fun kq v1 v8 v9 v10 w' => ∃ (u k i : Nat) (p : Bool) (s : List Int), kq + i = K ∧ v1 = .int .u64 u ∧ v8 = .int .i64 k ∧ v9 = .bool p ∧ v10 = .int .i64 i ∧ Aside0 (Tl w' g k s) ∧ Aside0 (fr kq u p s = F) ∧ kq + 1 ≤ k ∧ k ≤ n ∧ Aside0 (Only g w w') ∧ u < 18446744073709551616)
  case atStart => exact ⟨v, n, 0, false, t, rfl, rfl, rfl, rfl, rfl, H, hF, hn, Nat.le_refl _, ⟨Only.refl g w⟩, hv⟩
  case round =>
    clear H hF
    obtain ⟨u, k, i, p, s, hq, rfl, rfl, rfl, rfl, H, HF, hk, hkn, HO, hu⟩ := hrel
    by_cases hz : i < K
    · obtain ⟨m, rfl⟩ : ∃ m, gk = m + 1 := ⟨gk - 1, by omega⟩
      obtain ⟨k', rfl⟩ : ∃ k', k = k' + 1 := ⟨k - 1, by omega⟩
      obtain ⟨x, hx, hf⟩ := H.out.cell k' (by omega)
      have e1 : (u : Int).tmod 10 = ((u % 10 : Nat) : Int) := by rw [Int.tmod_eq_emod_of_nonneg (by omega)]; omega
      have e2 : (u : Int).tdiv 10 = ((u / 10 : Nat) : Int) := by rw [Int.tdiv_eq_ediv_of_nonneg (by omega)]; omega
      have hd : u % 10 < 10 := Nat.mod_lt _ (by decide)
      have q3 : ((k' : Int) + 1 - 1) = (k' : Int) := by omega
      have q4 : (k' : Int) < (n : Int) := by omega
      have q6 : (0 : Int) ≤ ((u % 10 : Nat) : Int) := by omega
      have q7 : ((u % 10 : Nat) : Int) < 10 := by omega
      have HS := Aside0.mk (fr_step ▸ HF.out)
      clear HF
      obtain ⟨d, hdd⟩ : ∃ d, Aside0 (u % 10 = d) := ⟨_, ⟨rfl⟩⟩
      rw [hdd.out] at e1 q6 q7 hd HS
      cases p
      · by_cases hd0 : d = 0
        · subst hd0
          have HS' := Aside0.mk (show fr m (u / 10) false s = F from HS.out)
          clear HS
          go_wp2
          go_roundg m
          case measure => omega
          case rel => exact ⟨u / 10, k' + 1, i + 1, false, s, by omega, by simp, rfl, rfl, by go_num, H, HS', by omega, by omega, HO, by omega⟩
        · have hd1 : ((d : Int) != 0) = true := by simp; omega
          have hd2 : (d != 0) = true := by simp [hd0]
          have HS' := Aside0.mk (show fr m (u / 10) true (((d : Int) + 48) :: s) = F by have := HS.out; rw [hd2] at this; exact this)
          clear HS hd2
          go_wp2
          go_roundg m
          case measure => omega
          case rel => exact ⟨u / 10, k', i + 1, true, ((d : Int) + 48) :: s, by omega, by simp, rfl, rfl, by go_num, ⟨H.out.push _⟩, HS', by omega, by omega, ⟨HO.out.set _ _⟩, by omega⟩
      · have HS' := Aside0.mk (show fr m (u / 10) true (((d : Int) + 48) :: s) = F from HS.out)
        clear HS
        go_wp2
        go_roundg m
        case measure => omega
        case rel => exact ⟨u / 10, k', i + 1, true, ((d : Int) + 48) :: s, by omega, by simp, rfl, rfl, by go_num, ⟨H.out.push _⟩, HS', by omega, by omega, ⟨HO.out.set _ _⟩, by omega⟩
    · have hm : gk = 0 := by omega
      subst hm
      have HS := Aside0.mk (show (s, u, p) = F from HF.out)
      clear HF
      obtain ⟨k', rfl⟩ : ∃ k', k = k' + 1 := ⟨k - 1, by omega⟩
      obtain ⟨x, hx, hf⟩ := H.out.cell k' (by omega)
      have q3 : ((k' : Int) + 1 - 1) = (k' : Int) := by omega
      have q4 : (k' : Int) < (n : Int) := by omega
      have hT' := hT.out
      have hN' := hN.out
      rw [← HS.out] at hT' hN'
      cases p
      · have HT := Aside0.mk (show s = T from hT')
        have HN' := Aside0.mk (show u = N from hN')
        clear hT' hN' HS hT hN
        go_wp2
        go_returns
        exact ⟨k' + 1, by rw [← HN'.out]; rfl, by rw [← HT.out]; exact H.out, HO.out⟩
      · have HT := Aside0.mk (show 46 :: s = T from hT')
        have HN' := Aside0.mk (show u = N from hN')
        clear hT' hN' HS hT hN
        go_wp2
        go_returns
        exact ⟨k', by rw [← HN'.out]; rfl, by rw [← HT.out]; exact H.out.push 46, HO.out.set _ _⟩
end Go.Proofs.Ytdifeleddhefnaa
