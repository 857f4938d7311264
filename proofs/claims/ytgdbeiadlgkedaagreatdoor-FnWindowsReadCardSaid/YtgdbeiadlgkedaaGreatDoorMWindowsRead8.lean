/- Contracts and plain laws, several texts in one. -/
import Derived.Test.YtgdbeiadlgkedaaGreatDoorMWindowsRead4
import Derived.Test.YtgdbeiadlgkedaaGreatDoorMWindowsRead5
import Derived.Test.YtgdbeiadlgkedaaGreatDoorMWindowsRead6
import Derived.Test.YtgdbeiadlgkedaaGreatDoorMWindowsRead7
set_option linter.unusedVariables false
set_option linter.unusedSimpArgs false
namespace Go.Proofs.YtgdbeiadlgkedaaGreatDoor
open Go.RowKit PFnWindowOne Go.Proofs.YtgdbeiadlgkedaaGreatDoorW.PrintWords
theorem rd32_map (l : List S23) (k : Nat) (h : k < l.length) : rd_T32 (l.map toS) (k : Int) = toS (rdN l k) := by
  rw [rd32_at _ k (by rw [List.length_map]; exact h), List.getElem_map, rdN_at l k h]
theorem atS {w : World} {A : Option Addr} {n : Nat} {l : List S23} (h : Kd.C k32 w A n (l.map toS)) (hn : n = l.length) (i : Nat) (h1 : i < n) : ∃ ad, A = some ad ∧ w.cell? (ad.add (i * 3)) = some (.bool (rdN l i).f0) ∧ w.cell? ⟨(ad.add (i * 3)).block, (ad.add (i * 3)).off + 1, none⟩ = some (.int .i64 (rdN l i).f1) ∧ w.cell? ⟨(ad.add (i * 3)).block, (ad.add (i * 3)).off + 2, none⟩ = some (.int .i64 (rdN l i).f2) := by
  obtain ⟨ad, e, h0, h1, h2⟩ := at_T32 h (i : Int) (by omega) (by omega)
  rw [rd32_map l i (by omega)] at h0 h1 h2
  exact ⟨ad, e, h0, h1, h2⟩
end Go.Proofs.YtgdbeiadlgkedaaGreatDoor
set_option linter.unusedVariables false
set_option linter.unusedSimpArgs false
namespace Go.Proofs.YtgdbeiadlgkedaaGreatDoor
open Go.RowKit PFnWindowOne Go.Proofs.YtgdbeiadlgkedaaGreatDoorW.PrintWords
theorem eqA32 (d : Nat) (w : World) (x0 y0 : Bool) (x1 y1 : Int) (x2 y2 : Int) :
    (Op.equalIn (d + 2) 32 (.agg #[.bool x0, .int .i64 x1, .int .i64 x2]) (.agg #[.bool y0, .int .i64 y1, .int .i64 y2])).run Tryz.prog w = .ok (x0 == y0 && (x1 == y1 && (x2 == y2))) w := by
  refine eqA_of Tryz.underlying32 (by kernel_rfl) ?_
  refine eqf_cons (by rfl) (by go_simp; rfl) (by go_simp; rfl) (by go_simp) ?_
  refine eqf_cons (by rfl) (by go_simp; rfl) (by go_simp; rfl) (by go_simp) ?_
  exact eqf_last (by rfl) (by go_simp; rfl) (by go_simp; rfl) (by go_simp)
attribute [local go_sem high] eqA32
set_option maxHeartbeats 1000000 in
set_option maxRecDepth 100000 in
theorem same_eq (A0 : Option Addr) (c0 : Nat) (A1 : Option Addr) (c1 : Nat) (l : List S23) (w : World) (hr0 : Kd.C k32 w A0 l.length (l.map toS)) (hr1 : Kd.C k32 w A1 l.length (l.map toS)) :
    Calls Tryz.prog 18 #[.slice A0 l.length c0, .slice A1 l.length c1] w fun e w' => e = .returned (.bool true) ∧ ∃ q, w' = w.drewN q := by
  have HR0 := Aside0.mk hr0
  have HR1 := Aside0.mk hr1
  have hlen : l.length ≤ 9223372036854775807 := hr0.2.1
  have c3b0 : ((l.length : Int) == (l.length : Int)) = true := by simp
  have c3b1 : ((l.length : Int) != (l.length : Int)) = false := by simp
  clear hr0 hr1
  go_enter Tryz.func18, Tryz.ntmps18
  go_wp2
  repeat (go_quiet (fail); try go_wp2)
  go_loopg [13] l.length (fun kq v13 w' => ∃ k : Nat, k ≤ l.length ∧ Aside0 (kq = l.length - k) ∧ v13 = .int .i64 k ∧ ∃ q, w' = w.drewN q)
  case atStart => exact ⟨0, Nat.zero_le _, ⟨by simp⟩, rfl, ⟨0, rfl⟩⟩
  case round =>
    clear c3b0 c3b1
    obtain ⟨k, hk, hq, rfl, ⟨m1, rfl⟩⟩ := hrel
    by_cases hlt : k < l.length
    · obtain ⟨ad0, e0, hx0, hx1, hx2⟩ := atS HR0.out rfl k hlt
      cases e0
      obtain ⟨ad1, e1, hy0, hy1, hy2⟩ := atS HR1.out rfl k hlt
      cases e1
      have q0 : (k : Int) < (l.length : Int) := by omega
      have q2 : (0 : Int) ≤ (k : Int) := by omega
      go_wp2
      repeat (go_quiet (fail); try go_wp2)
      go_roundg (l.length - (k + 1))
      case measure => have := hq.out; omega
      case rel => exact ⟨k + 1, by omega, ⟨rfl⟩, by go_num, ⟨_, by first | rfl | exact World.drewN_drewN ..⟩⟩
    · go_wp2
      repeat (go_quiet (fail); try go_wp2)
      go_ret
      exact ⟨rfl, ⟨_, by first | rfl | exact World.drewN_drewN ..⟩⟩
end Go.Proofs.YtgdbeiadlgkedaaGreatDoor
set_option linter.unusedVariables false
set_option linter.unusedSimpArgs false
namespace Go.Proofs.YtgdbeiadlgkedaaGreatDoor
open Go.RowKit Go.Proofs.YtgdbeiadlgkedaaGreatDoorW.PrintWords
def to32 (x : PFnWindowOne.S23) : PFnWindowsRead.S32 := ⟨x.f0, x.f1, x.f2⟩
theorem mx_nrm (T : Int) (v : Nat) (h0 : -9223372036854775 ≤ T) (h1 : T ≤ 9223372036854775) (hv : v ≤ 4611686018427387904) : Go.Proofs.YtgdbeiadlgkedaaGreatDoorW.PrintWords.mx (wrap64 (T - wrap64 (v : Int))) (-9223372036854775) = nrm (wrap64 (T - wrap64 (v : Int))) := by
  have e1 : wrap64 (v : Int) = (v : Int) := by unfold wrap64; omega
  have e2 : wrap64 (T - (v : Int)) = T - (v : Int) := by unfold wrap64; omega
  rw [e1, e2]
  unfold Go.Proofs.YtgdbeiadlgkedaaGreatDoorW.PrintWords.mx nrm
  split
  · rfl
  · rw [if_neg (by omega)]
theorem rdWin_mk {l : List UInt8} {v k : Nat} (h8 : 8 ≤ l.length) (hv : vrd 0 0 (l.drop 8) = some (v, k)) : rdWin l = some (⟨false, nrm (wrap64 (tmOf l - wrap64 (v : Nat))), tmOf l⟩, 8 + k) := by
  unfold rdWin; rw [if_neg (Nat.not_lt.2 h8), hv]; rfl
theorem rdWin_cut {l : List UInt8} (h8 : 8 ≤ l.length) (hv : vrd 0 0 (l.drop 8) = none) : rdWin l = none := by
  unfold rdWin; rw [if_neg (Nat.not_lt.2 h8), hv]; rfl
theorem rdWin_few {l : List UInt8} (h8 : l.length < 8) : rdWin l = none := by unfold rdWin; rw [if_pos h8]
theorem wrap_8 {k : Nat} (h : k ≤ 400) : wrap64 (8 + (k : Int)) = ((8 + k : Nat) : Int) := by unfold wrap64; omega
theorem spanRead1 (s : ByteArray) (hs : s.size ≤ 400) (k : Nat) (hk : 1000 ≤ k) : ∃ (g : Bool) (a e z d : Int), PFnWindowsRead.spec_CodSpanRead.f k 1 s = some (g, a, e, z, d) ∧ ((d = 0 ∧ ∃ x n, rdWin s.data.toList = some (x, n) ∧ g = x.f0 ∧ a = x.f1 ∧ e = x.f2 ∧ z = (n : Nat)) ∨ (d = 1 ∧ rdWin s.data.toList = none) ∨ d = 2) := by
  have hz : s.data.toList.length = s.size := by rw [Array.length_toList]; rfl
  unfold PFnWindowsRead.spec_CodSpanRead.f
  rw [if_neg (by decide)]
  by_cases h8 : s.size < 8
  · have := num_badk s 8 k h8
    rw [show ((8 : Nat) : Int) = 8 from rfl] at this
    rw [this]
    simp only [Option.bind_some]
    rw [if_neg (by decide)]
    exact ⟨_, _, _, _, _, rfl, .inr (.inl ⟨rfl, rdWin_few (by omega)⟩)⟩
  · have hnum := num_fk s 8 k (by omega) (by omega) (by omega)
    rw [show ((8 : Nat) : Int) = 8 from rfl] at hnum
    rw [hnum]
    simp only [Option.bind_some, if_true]
    rw [if_pos (by omega)]
    have hx : (s.extract 8 s.size).data.toList = s.data.toList.drop 8 := by
      rw [Lib.extract_data, List.take_of_length_le (by rw [List.length_drop]; omega)]
    have hxs : (s.extract 8 s.size).size ≤ 400 := by rw [ByteArray.size_extract]; omega
    rw [cvr_f (s.extract 8 s.size) (by omega) k (by omega), hx]
    have h8l : 8 ≤ s.data.toList.length := by omega
    obtain ⟨V, hV, hW⟩ := xor_time (Lib.beNat (s.data.toList.take 8)) (beNat_lt8 _ (by rw [List.length_take]; omega))
    have hT : tmOf s.data.toList = wrap64 (V : Int) := hW.symm
    cases hv : vrd 0 0 (s.data.toList.drop 8) with
    | none =>
      simp only [cvT, Option.bind_some]
      rw [if_neg (by decide)]
      exact ⟨_, _, _, _, _, rfl, .inr (.inl ⟨rfl, rdWin_cut h8l hv⟩)⟩
    | some p =>
      obtain ⟨v, kk⟩ := p
      rw [show cvT (some (v, kk)) = ((v : Int), (kk : Int), (0 : Int)) from rfl, Option.bind_some, if_pos (show ((v : Int), (kk : Int), (0 : Int)).2.2 = 0 from rfl), hV, ← hT]
      obtain ⟨T, hTT⟩ : ∃ T, tmOf s.data.toList = T := ⟨_, rfl⟩
      obtain ⟨_, _, hk1, hk2⟩ := vrd_facts _ 0 0 v kk (by decide) hv
      rw [List.length_drop] at hk1
      have hk4 : kk ≤ 400 := by omega
      rw [hTT]
      clear hT hW hk1 hk2 hnum
      unfold PFnWindowsRead.spec_CodSpanTime.f
      by_cases c1 : T ≥ -9223372036854775
      · rw [if_pos c1]
        by_cases c2 : T ≤ 9223372036854775
        · simp only [Option.bind_some, decide_eq_true c2, if_true]
          by_cases c3 : (v : Int) > 4611686018427387904
          · rw [if_pos c3]; exact ⟨_, _, _, _, _, rfl, .inr (.inr rfl)⟩
          · rw [if_neg c3, mx_nrm T v c1 c2 (by omega)]
            refine ⟨_, _, _, _, _, rfl, .inl ⟨rfl, ⟨false, nrm (wrap64 (T - wrap64 (v : Nat))), T⟩, 8 + kk, ?_, rfl, rfl, rfl, ?_⟩⟩
            · rw [rdWin_mk h8l hv, hTT]
            · exact wrap_8 hk4
        · simp only [Option.bind_some, decide_eq_false c2]
          exact ⟨_, _, _, _, _, rfl, .inr (.inr rfl)⟩
      · rw [if_neg c1]
        simp only [Option.bind_some]
        exact ⟨_, _, _, _, _, rfl, .inr (.inr rfl)⟩
theorem rdWin_le {l : List UInt8} {x : PFnWindowOne.S23} {n : Nat} (h : rdWin l = some (x, n)) : n ≤ l.length := by
  obtain ⟨h8, v, k, hv, _, rfl⟩ := rdWin_some h
  obtain ⟨_, _, h1, _⟩ := vrd_facts _ 0 0 v k (by decide) hv
  rw [List.length_drop] at h1
  omega
theorem spansRead_l (s : ByteArray) (hs : s.size ≤ 400) (n : Nat) (hn : n ≤ 10000) : ∀ (m i p k : Nat) (x9 : List PFnWindowsRead.S32), i + m = n → x9.length = i → p ≤ s.size → m + 1000 ≤ k →
    ∃ (L : List PFnWindowsRead.S32) (z d : Int), PFnWindowsRead.spec_CodSpansRead.l0 (k + 1) 1 s x9 (p : Nat) (n : Nat) (i : Nat) = some (L, z, d) ∧ ((d = 0 ∧ ∃ ys q, rdWins m (s.data.toList.drop p) = some (ys, q) ∧ L = x9 ++ ys.map to32 ∧ z = ((p + q : Nat) : Int)) ∨ (d = 1 ∧ rdWins m (s.data.toList.drop p) = none) ∨ d = 2)
  | 0, i, p, k, x9, h, hx, hp, hk => by
    rw [PFnWindowsRead.spec_CodSpansRead.l0, if_neg (by omega)]
    exact ⟨_, _, _, rfl, .inl ⟨rfl, [], 0, rfl, by simp, rfl⟩⟩
  | m + 1, i, p, k, x9, h, hx, hp, hk => by
    have hz : s.data.toList.length = s.size := by rw [Array.length_toList]; rfl
    rw [PFnWindowsRead.spec_CodSpansRead.l0, if_pos (by omega), if_pos (by omega), if_pos (by omega), Int.toNat_natCast]
    have hxx : (s.extract p s.size).data.toList = s.data.toList.drop p := by
      rw [Lib.extract_data, List.take_of_length_le (by rw [List.length_drop]; omega)]
    obtain ⟨g, a, e, z, d, hr, hc⟩ := spanRead1 (s.extract p s.size) (by rw [ByteArray.size_extract]; omega) k (by omega)
    rw [hxx] at hc
    rw [hr]
    simp only [Option.bind_some]
    rcases hc with ⟨rfl, x, q, h1, rfl, rfl, rfl, rfl⟩ | ⟨rfl, h1⟩ | rfl
    · have hq := rdWin_le h1
      rw [List.length_drop] at hq
      have w1 : wrap64 ((p : Int) + (q : Int)) = ((p + q : Nat) : Int) := by unfold wrap64; omega
      have w2 : IntKind.u64.wrap ((i : Int) + 1) = ((i + 1 : Nat) : Int) := by rw [IntKind.wrap_u64]; omega
      rw [if_pos rfl, if_pos (by omega), w1, w2]
      obtain ⟨k', rfl⟩ : ∃ k', k = k' + 1 := ⟨k - 1, by omega⟩
      obtain ⟨L, z', d', hr', hc'⟩ := spansRead_l s hs n hn m (i + 1) (p + q) k' (x9 ++ [(⟨x.f0, x.f1, x.f2⟩ : PFnWindowsRead.S32)]) (by omega) (by simp [hx]) (by omega) (by omega)
      refine ⟨L, z', d', hr', ?_⟩
      rw [← List.drop_drop] at hc'
      rcases hc' with ⟨rfl, ys, q', h2, rfl, rfl⟩ | ⟨rfl, h2⟩ | rfl
      · refine .inl ⟨rfl, x :: ys, q + q', ?_, by simp [to32], by congr 1; omega⟩
        simp only [rdWins, h1, Option.bind_some, h2, Option.map_some]
      · refine .inr (.inl ⟨rfl, ?_⟩)
        simp only [rdWins, h1, Option.bind_some, h2, Option.map_none]
      · exact .inr (.inr rfl)
    · rw [if_neg (by decide)]
      refine ⟨_, _, _, rfl, .inr (.inl ⟨rfl, ?_⟩)⟩
      simp only [rdWins, h1, Option.bind_none]
    · rw [if_neg (by decide)]
      exact ⟨_, _, _, rfl, .inr (.inr rfl)⟩
def nWins (l : List UInt8) : Nat := Lib.beNat (l.take 4)
theorem spansRead_f1 (s : ByteArray) (hs : s.size ≤ 400) : ∃ (L : List PFnWindowsRead.S32) (z d : Int), PFnWindowsRead.spec_CodSpansRead.f 20000 1 s = some (L, z, d) ∧ ((d = 0 ∧ 4 ≤ s.size ∧ nWins s.data.toList ≤ 10000 ∧ ∃ ys q, rdWins (nWins s.data.toList) (s.data.toList.drop 4) = some (ys, q) ∧ L = ys.map to32 ∧ z = ((4 + q : Nat) : Int)) ∨ (d = 1 ∧ (s.size < 4 ∨ (4 ≤ s.size ∧ nWins s.data.toList ≤ 10000 ∧ rdWins (nWins s.data.toList) (s.data.toList.drop 4) = none))) ∨ d = 2) := by
  unfold PFnWindowsRead.spec_CodSpansRead.f
  by_cases h4 : s.size < 4
  · have := num_badk s 4 20000 h4
    rw [show ((4 : Nat) : Int) = 4 from rfl] at this
    rw [this]
    simp only [Option.bind_some]
    rw [if_neg (by decide)]
    exact ⟨_, _, _, rfl, .inr (.inl ⟨rfl, .inl h4⟩)⟩
  · have hnum := num_fk s 4 20000 (by omega) (by omega) (by omega)
    rw [show ((4 : Nat) : Int) = 4 from rfl] at hnum
    rw [hnum]
    simp only [Option.bind_some, if_true]
    rw [if_neg (by decide), show Lib.beNat (s.data.toList.take 4) = nWins s.data.toList from rfl]
    by_cases hn : ((nWins s.data.toList : Nat) : Int) > 10000
    · rw [if_pos hn]; exact ⟨_, _, _, rfl, .inr (.inr rfl)⟩
    · rw [if_neg hn]
      obtain ⟨L, z, d, hr, hc⟩ := spansRead_l s hs (nWins s.data.toList) (by omega) (nWins s.data.toList) 0 4 19999 [] (by omega) rfl (by omega) (by omega)
      refine ⟨L, z, d, hr, ?_⟩
      rcases hc with ⟨rfl, ys, q, h1, rfl, rfl⟩ | ⟨rfl, h1⟩ | rfl
      · exact .inl ⟨rfl, by omega, by omega, ys, q, h1, by simp, rfl⟩
      · exact .inr (.inl ⟨rfl, .inr ⟨by omega, by omega, h1⟩⟩)
      · exact .inr (.inr rfl)
theorem spansRead_f0 (s : ByteArray) : ∃ (L : List PFnWindowsRead.S32) (z d : Int), PFnWindowsRead.spec_CodSpansRead.f 20000 0 s = some (L, z, d) ∧ ((d = 0 ∧ 4 ≤ s.size ∧ L = [to32 gSp] ∧ z = 4) ∨ (d = 1 ∧ s.size < 4)) := by
  unfold PFnWindowsRead.spec_CodSpansRead.f
  by_cases h4 : s.size < 4
  · have := num_badk s 4 20000 h4
    rw [show ((4 : Nat) : Int) = 4 from rfl] at this
    rw [this]
    simp only [Option.bind_some]
    rw [if_neg (by decide)]
    exact ⟨_, _, _, rfl, .inr ⟨rfl, h4⟩⟩
  · have hnum := num_fk s 4 20000 (by omega) (by omega) (by omega)
    rw [show ((4 : Nat) : Int) = 4 from rfl] at hnum
    rw [hnum]
    simp only [Option.bind_some, if_true]
    exact ⟨_, _, _, rfl, .inl ⟨rfl, by omega, rfl, rfl⟩⟩
theorem C32_to {w : World} {A : Option Addr} {n : Nat} {l : List PFnWindowOne.S23} (h : Kd.C PFnWindowsRead.k32 w A n (l.map to32)) : Kd.C PFnWindowOne.k32 w A n (l.map toS) := by
  obtain ⟨h1, h2, h3⟩ := h
  refine ⟨by rw [List.length_map] at h1 ⊢; exact h1, h2, fun hn => ?_⟩
  obtain ⟨ad, e, hc⟩ := h3 hn
  refine ⟨ad, e, fun j p hj => ?_⟩
  rw [List.getElem?_map] at hj
  obtain ⟨x, hx, rfl⟩ := Option.map_eq_some_iff.1 hj
  obtain ⟨c, hl, hK, hcell⟩ := hc j (to32 x) (by rw [List.getElem?_map, hx]; rfl)
  refine ⟨c, hl, ?_, hcell⟩
  obtain rfl := PFnWindowsRead.k32_open hK
  exact PFnWindowOne.k32_mk w (toS x)
end Go.Proofs.YtgdbeiadlgkedaaGreatDoor
set_option linter.unusedVariables false
set_option linter.unusedSimpArgs false
namespace Go.Proofs.YtgdbeiadlgkedaaGreatDoor
open Go.RowKit PFnWindowOne Go.Proofs.YtgdbeiadlgkedaaGreatDoorW.PrintWords
theorem C_move {w w1 : World} {A : Option Addr} {n : Nat} {l : List S23} (h : Kd.C k23 w A n l) (hb : Below w.heap.size w w1) : Kd.C k23 w1 A n l := Kd.C_below h hb
end Go.Proofs.YtgdbeiadlgkedaaGreatDoor
set_option linter.unusedVariables false
set_option linter.unusedSimpArgs false
namespace Go.Proofs.YtgdbeiadlgkedaaGreatDoor
open Go.RowKit PFnWindowOne Go.Proofs.YtgdbeiadlgkedaaGreatDoorW.PrintWords
def kOf (b : Bool) : Int := if b then 1 else 0
theorem kind_any (b : Bool) (w : World) : Calls Tryz.prog 21 #[.bool b] w fun e w' => e = .returned (.int .i64 (kOf b)) ∧ w = w' := by
  cases b
  · go_enter Tryz.func21, Tryz.ntmps21
    go_wp2
    go_ret
    exact ⟨rfl, rfl⟩
  · go_enter Tryz.func21, Tryz.ntmps21
    go_wp2
    go_ret
    exact ⟨rfl, rfl⟩
theorem read_long (b : Bool) (t : ByteArray) (w : World) (h : 2147483647 < t.size) :
    Calls Tryz.prog 8 #[.bool b, .string t] w fun x w' => x = .returned (.bool true) ∧ Below w.heap.size w w' := by
  have h2 : 2147483647 < (t.size : Int) := by omega
  clear h
  go_enter Tryz.func8, Tryz.ntmps8
  go_wp2
  go_ret
  exact ⟨rfl, Below.refl _ w⟩
theorem read_much (pe pl : Addr) (b : Bool) (t : ByteArray) (w : World) (he : Env w.heap.size pe pl w) (h : ¬ 2147483647 < t.size) (h3 : 400 < t.size) :
    Calls Tryz.prog 8 #[.bool b, .string t] w fun x w' => x = .returned (.bool true) ∧ Below w.heap.size w w' := by
  have HA := Lib.hid (awake_any w.heap.size pe pl w he (Nat.le_refl _))
  have h2 : ¬ 2147483647 < (t.size : Int) := by omega
  have h4 : 400 < (t.size : Int) := by omega
  clear h h3 he
  go_enter Tryz.func8, Tryz.ntmps8
  go_wp2_with (go_at_call 11; go_loud (refine HA.out.mono ?_; rintro e_ w1 ⟨rfl, hb1⟩; have HB1 := Lib.hid hb1; clear hb1))
  go_ret
  exact ⟨rfl, HB1.out⟩
set_option maxHeartbeats 4000000 in
set_option maxRecDepth 100000 in
theorem read_2 (pe pl : Addr) (b : Bool) (t : ByteArray) (w : World) (he : Env w.heap.size pe pl w) (h : t.size ≤ 400)
    (hs : ∀ W, Calls Tryz.prog 28 #[.int .i64 (kOf b), .string t] W fun e w' => ∃ (v : Value) (z : Int), e = .returned (.tuple #[v, .int .i64 z, .int .i64 2]) ∧ Below W.heap.size W w') :
    Calls Tryz.prog 8 #[.bool b, .string t] w fun x w' => x = .returned (.bool true) ∧ Below w.heap.size w w' := by
  have HE := Lib.hid he
  have HS := Lib.hid hs
  have h2 : (t.size : Int) ≤ 400 := by omega
  clear h he hs
  go_enter Tryz.func8, Tryz.ntmps8
  go_wp2_with (first
    | (go_at_call 21; go_loud (refine (kind_any b _).mono ?_; rintro e_ w1 ⟨rfl, rfl⟩))
    | (go_at_call 28; go_loud ((with_reducible refine (HS.out _).mono ?_); rintro e_ w2 ⟨v, z, rfl, hb⟩; have HB2 := Lib.hid hb; clear hb))
    | (go_at_call 11; go_loud ((with_reducible refine (awake_any w.heap.size pe pl w2 (HE.out.below HB2.out) HB2.out.size).mono ?_); rintro e_ w3 ⟨rfl, hb⟩; have HB3 := Lib.hid (below_then HB2.out HB2.out.size hb); clear hb)))
  go_ret
  exact ⟨rfl, HB3.out⟩
theorem ne_emptyZ {s : ByteArray} (h : s.data.toList ≠ []) : ¬ s = ⟨#[]⟩ ∧ s.toList.isEmpty = false := by
  refine ⟨fun e => h (by rw [e]), ?_⟩
  rw [ByteArray.toList_eq]
  cases hs : s.data.toList with
  | nil => exact absurd hs h
  | cons a b => rfl
set_option maxHeartbeats 4000000 in
set_option maxRecDepth 100000 in
theorem read_1 (pe pl : Addr) (b : Bool) (t : ByteArray) (w : World) (he : Env w.heap.size pe pl w) (h : t.size ≤ 400)
    (hs : ∀ W, Calls Tryz.prog 28 #[.int .i64 (kOf b), .string t] W fun e w' => ∃ (v : Value) (z : Int), e = .returned (.tuple #[v, .int .i64 z, .int .i64 1]) ∧ Below W.heap.size W w')
    (hd : ∀ W, Env w.heap.size pe pl W → w.heap.size ≤ W.heap.size → Calls Tryz.prog 17 #[.int .i64 (kOf b), .string t] W fun x w' => ∃ (A : Option Addr) (n c m : Nat) (s : ByteArray), x = .returned (.tuple #[.slice A n c, .int .i64 (m : Nat), .string s]) ∧ s.data.toList ≠ [] ∧ Below W.heap.size W w') :
    Calls Tryz.prog 8 #[.bool b, .string t] w fun x w' => x = .returned (.bool true) ∧ Below w.heap.size w w' := by
  have HE := Lib.hid he
  have HS := Lib.hid hs
  have HD := Lib.hid hd
  have h2 : (t.size : Int) ≤ 400 := by omega
  clear h he hs hd
  go_enter Tryz.func8, Tryz.ntmps8
  go_wp2_with (first
    | (go_at_call 21; go_loud (refine (kind_any b _).mono ?_; rintro e_ w1 ⟨rfl, rfl⟩))
    | (go_at_call 28; go_loud ((with_reducible refine (HS.out _).mono ?_); rintro e_ w2 ⟨v, z, rfl, hb⟩; have HB2 := Lib.hid hb; clear hb))
    | (go_at_call 17; go_loud ((with_reducible refine (HD.out w2 (HE.out.below HB2.out) HB2.out.size).mono ?_); rintro e_ w3 ⟨A, n, c, m, s, rfl, hne, hb⟩; obtain ⟨n1, n2⟩ := ne_emptyZ hne; have HB3 := Lib.hid (below_then HB2.out HB2.out.size hb); clear hb hne))
    | (go_at_call 11; go_loud ((with_reducible refine (awake_any w.heap.size pe pl w3 (HE.out.below HB3.out) HB3.out.size).mono ?_); rintro e_ w4 ⟨rfl, hb⟩; have HB4 := Lib.hid (below_then HB3.out HB3.out.size hb); clear hb)))
  go_ret
  exact ⟨rfl, HB4.out⟩
set_option maxHeartbeats 4000000 in
set_option maxRecDepth 100000 in
theorem read_0 (pe pl : Addr) (b : Bool) (t : ByteArray) (w : World) (he : Env w.heap.size pe pl w) (h : t.size ≤ 400) (ys : List S23) (z : Nat) (hy : ys.length ≤ 10000)
    (hs : ∀ W, Calls Tryz.prog 28 #[.int .i64 (kOf b), .string t] W fun e w' => ∃ (v : Value), e = .returned (.tuple #[v, .int .i64 (z : Nat), .int .i64 0]) ∧ Kd.R PFnWindowsRead.k32 32 w' W.heap.size (fun _ => True) v (ys.map to32) ∧ Below W.heap.size W w')
    (hd : ∀ W, Env w.heap.size pe pl W → w.heap.size ≤ W.heap.size → Calls Tryz.prog 17 #[.int .i64 (kOf b), .string t] W fun x w' => ∃ (A : Option Addr) (c : Nat), x = .returned (.tuple #[.slice A ys.length c, .int .i64 (z : Nat), .string ⟨#[]⟩]) ∧ Kd.C k23 w' A ys.length ys ∧ ys.length ≤ c ∧ Below W.heap.size W w') :
    Calls Tryz.prog 8 #[.bool b, .string t] w fun x w' => x = .returned (.bool true) ∧ Below w.heap.size w w' := by
  have HE := Lib.hid he
  have HS := Lib.hid hs
  have HD := Lib.hid hd
  have h2 : (t.size : Int) ≤ 400 := by omega
  have h3 : (ys.length : Int) ≤ 10000 := by omega
  have HSO := Lib.hid (fun (A' : Option Addr) (c' : Nat) (W : World) (h : Kd.C k23 W A' ys.length ys) (h2 : ys.length ≤ c') => laws_codSpanOf.calls (ys.length + 1) A' c' ys _ W h h2 (spanOf_f ys (by omega)))
  clear h he hs hd
  go_enter Tryz.func8, Tryz.ntmps8
  go_wp2_with (first
    | (go_at_call 21; go_loud (refine (kind_any b _).mono ?_; rintro e_ w1 ⟨rfl, rfl⟩))
    | (go_at_call 28; go_loud ((with_reducible refine (HS.out _).mono ?_); rintro e_ w2 ⟨v, rfl, hR2, hb⟩; obtain ⟨A2, c2, e2⟩ := Kd.R_slice hR2; subst e2; have hC2 := (Kd.R_reads' hR2).2.2; rw [List.length_map] at hC2; (try rw [List.length_map]); have HC2 := Lib.hid (C32_to hC2); have HB2 := Lib.hid hb; clear hb hR2 hC2))
    | (go_at_call 17; go_loud ((with_reducible refine (HD.out w2 (HE.out.below HB2.out) HB2.out.size).mono ?_); rintro e_ w3 ⟨A3, c3, rfl, hC3, hc3, hb⟩; have HC3 := Lib.hid (And.intro hC3 hc3); have HC2b := Lib.hid (Kd.C_below HC2.out hb); have HB3 := Lib.hid (below_then HB2.out HB2.out.size hb); clear hb hC3 hc3))
    | (go_at_call 11; go_loud ((with_reducible refine (awake_any w.heap.size pe pl w3 (HE.out.below HB3.out) HB3.out.size).mono ?_); rintro e_ w4 ⟨rfl, hb⟩; have HC4 := Lib.hid (C_move HC3.out.1 hb); have HC2c := Lib.hid (Kd.C_below HC2b.out hb); have HB4 := Lib.hid (below_then HB3.out HB3.out.size hb); clear hb))
    | (go_at_call 15; go_loud ((with_reducible refine (HSO.out A3 c3 w4 HC4.out HC3.out.2).mono ?_); rintro e_ w6 ⟨v, rfl, hR6, hb⟩; obtain ⟨A6, c6, e6⟩ := Kd.R_slice hR6; subst e6; have hC6 := (Kd.R_reads' hR6).2.2; rw [List.length_map] at hC6; (try rw [List.length_map]); have HC6 := Lib.hid hC6; have HC2d := Lib.hid (Kd.C_below HC2c.out hb); have HB6 := Lib.hid (below_then HB4.out HB4.out.size hb); clear hR6 hC6 hb))
    | (go_at_call 18; go_loud ((with_reducible refine (same_eq A6 c6 A2 c2 ys w6 HC6.out HC2d.out).mono ?_); rintro e_ w8 ⟨rfl, q, hq⟩; have HB8 := Lib.hid (show Below w.heap.size w w8 by rw [hq]; exact below_drewN HB6.out q); clear hq)))
  go_ret
  exact ⟨rfl, HB8.out⟩
end Go.Proofs.YtgdbeiadlgkedaaGreatDoor
set_option linter.unusedVariables false
set_option linter.unusedSimpArgs false
namespace Go.Proofs.YtgdbeiadlgkedaaGreatDoor
open Go.RowKit PFnWindowOne Go.Proofs.YtgdbeiadlgkedaaGreatDoorW.PrintWords
theorem len_data (t : ByteArray) : t.data.toList.length = t.size := by rw [Array.length_toList]; rfl
theorem hn_of {t : ByteArray} (h : nWins t.data.toList ≤ 10000) : wrap32 (Lib.beNat ((t.data.toList.drop 0).take 4) : Nat) = (nWins t.data.toList : Int) := by
  rw [List.drop_zero]
  show wrap32 ((nWins t.data.toList : Nat) : Int) = _
  unfold wrap32; omega
theorem spans_said (b : Bool) (t : ByteArray) (h : t.size ≤ 400) :
    (∃ (ys : List S23) (z : Nat), ys.length ≤ 10000 ∧ (∀ W, Calls Tryz.prog 28 #[.int .i64 (kOf b), .string t] W fun e w' => ∃ (v : Value), e = .returned (.tuple #[v, .int .i64 (z : Nat), .int .i64 0]) ∧ Kd.R PFnWindowsRead.k32 32 w' W.heap.size (fun _ => True) v (ys.map to32) ∧ Below W.heap.size W w') ∧
      4 ≤ t.size ∧ ((b = false ∧ ys = [gSp] ∧ z = 4) ∨ (b = true ∧ nWins t.data.toList ≤ 10000 ∧ ∃ q, z = 4 + q ∧ rdWins (nWins t.data.toList) (t.data.toList.drop 4) = some (ys, q)))) ∨
    ((∀ W, Calls Tryz.prog 28 #[.int .i64 (kOf b), .string t] W fun e w' => ∃ (v : Value) (z : Int), e = .returned (.tuple #[v, .int .i64 z, .int .i64 1]) ∧ Below W.heap.size W w') ∧ (t.size < 4 ∨ (4 ≤ t.size ∧ b = true ∧ nWins t.data.toList ≤ 10000 ∧ rdWins (nWins t.data.toList) (t.data.toList.drop 4) = none))) ∨
    (∀ W, Calls Tryz.prog 28 #[.int .i64 (kOf b), .string t] W fun e w' => ∃ (v : Value) (z : Int), e = .returned (.tuple #[v, .int .i64 z, .int .i64 2]) ∧ Below W.heap.size W w') := by
  cases b with
  | false =>
    obtain ⟨L, z, d, hf, hc⟩ := spansRead_f0 t
    have hC := fun W => PFnWindowsRead.spec_CodSpansRead.calls 20000 0 t L z d W hf
    rcases hc with ⟨rfl, h4, rfl, rfl⟩ | ⟨rfl, h4⟩
    · exact .inl ⟨[gSp], 4, by decide, hC, h4, .inl ⟨rfl, rfl, rfl⟩⟩
    · exact .inr (.inl ⟨fun W => (hC W).mono (by rintro e w' ⟨v, rfl, _, hb⟩; exact ⟨v, _, rfl, hb⟩), .inl h4⟩)
  | true =>
    obtain ⟨L, z, d, hf, hc⟩ := spansRead_f1 t h
    have hC := fun W => PFnWindowsRead.spec_CodSpansRead.calls 20000 1 t L z d W hf
    rcases hc with ⟨rfl, h4, hn, ys, q, hr, rfl, rfl⟩ | ⟨rfl, h4⟩ | rfl
    · have hl := (rdWins_f0 _ _ ys q hr).1
      exact .inl ⟨ys, 4 + q, by omega, hC, h4, .inr ⟨rfl, hn, q, rfl, hr⟩⟩
    · refine .inr (.inl ⟨fun W => (hC W).mono (by rintro e w' ⟨v, rfl, _, hb⟩; exact ⟨v, _, rfl, hb⟩), ?_⟩)
      rcases h4 with h4 | ⟨h4, hn, hr⟩
      · exact .inl h4
      · exact .inr ⟨h4, rfl, hn, hr⟩
    · exact .inr (.inr fun W => (hC W).mono (by rintro e w' ⟨v, rfl, _, hb⟩; exact ⟨v, _, rfl, hb⟩))
theorem dec_right (pe pl : Addr) (B : Nat) (b : Bool) (t : ByteArray) (h : t.size ≤ 400) (ys : List S23) (z : Nat) (h4 : 4 ≤ t.size) (hc : (b = false ∧ ys = [gSp] ∧ z = 4) ∨ (b = true ∧ nWins t.data.toList ≤ 10000 ∧ ∃ q, z = 4 + q ∧ rdWins (nWins t.data.toList) (t.data.toList.drop 4) = some (ys, q))) (W : World) (he : Env B pe pl W) (hB : B ≤ W.heap.size) :
    Calls Tryz.prog 17 #[.int .i64 (kOf b), .string t] W fun x w' => ∃ (A : Option Addr) (c : Nat), x = .returned (.tuple #[.slice A ys.length c, .int .i64 (z : Nat), .string ⟨#[]⟩]) ∧ Kd.C k23 w' A ys.length ys ∧ ys.length ≤ c ∧ Below W.heap.size W w' := by
  have hz := len_data t
  rcases hc with ⟨rfl, rfl, rfl⟩ | ⟨rfl, hn, q, rfl, hr⟩
  · have := decWins_0_ok B pe pl t W (by omega) he hB (by omega)
    refine this.mono ?_
    rintro x w' ⟨A, c, rfl, hC, hc, hb⟩
    exact ⟨A, c, rfl, hC, hc, hb⟩
  · have := decWins_1_ok B pe pl t W (by omega) he hB (nWins t.data.toList) (by omega) (hn_of hn) hn ys q (4 + q) hr (by omega)
    rw [nz_id (rdWins_f0 _ _ ys q hr).2] at this
    exact this
theorem dec_wrong (pe pl : Addr) (B : Nat) (b : Bool) (t : ByteArray) (h : t.size ≤ 400) (hc : t.size < 4 ∨ (4 ≤ t.size ∧ b = true ∧ nWins t.data.toList ≤ 10000 ∧ rdWins (nWins t.data.toList) (t.data.toList.drop 4) = none)) (W : World) (he : Env B pe pl W) (hB : B ≤ W.heap.size) :
    Calls Tryz.prog 17 #[.int .i64 (kOf b), .string t] W fun x w' => ∃ (A : Option Addr) (n c m : Nat) (s : ByteArray), x = .returned (.tuple #[.slice A n c, .int .i64 (m : Nat), .string s]) ∧ s.data.toList ≠ [] ∧ Below W.heap.size W w' := by
  have hz := len_data t
  rcases hc with h4 | ⟨h4, rfl, hn, hr⟩
  · cases b with
    | false => exact decWins_0_few B pe pl t W (by omega) he hB (by omega)
    | true => exact decWins_1_few B pe pl t W (by omega) he hB (by omega)
  · exact decWins_1_bad B pe pl t W (by omega) he hB (nWins t.data.toList) (by omega) (hn_of hn) hn hr
theorem read_row (pe pl : Addr) (b : Bool) (t : ByteArray) (w : World) (he : Env w.heap.size pe pl w) :
    Calls Tryz.prog 8 #[.bool b, .string t] w fun x w' => x = .returned (.bool true) ∧ Below w.heap.size w w' := by
  by_cases h1 : 2147483647 < t.size
  · exact read_long b t w h1
  by_cases h2 : 400 < t.size
  · exact read_much pe pl b t w he h1 h2
  rcases spans_said b t (by omega) with ⟨ys, z, hy, hs, h4, hc⟩ | ⟨hs, hc⟩ | hs
  · exact read_0 pe pl b t w he (by omega) ys z hy hs (fun W h3 h5 => dec_right pe pl _ b t (by omega) ys z h4 hc W h3 h5)
  · exact read_1 pe pl b t w he (by omega) hs (fun W h3 h5 => dec_wrong pe pl _ b t (by omega) hc W h3 h5)
  · exact read_2 pe pl b t w he (by omega) hs
end Go.Proofs.YtgdbeiadlgkedaaGreatDoor
