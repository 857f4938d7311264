/- Contracts and plain laws, several texts in one. -/
import Derived.Test.YtgdbeiadlgkedaaGreatDoorMHeaderBack2
import Derived.Test.YtgdbeiadlgkedaaGreatDoorMHeaderBack5
import Derived.Test.YtgdbeiadlgkedaaGreatDoorMHeaderBack6
import Derived.Test.YtgdbeiadlgkedaaGreatDoorMHeaderBack9
import Derived.WideLaws
set_option linter.unusedVariables false
set_option linter.unusedSimpArgs false
namespace Go.Proofs.YtgdbeiadlgkedaaGreatDoor
open Go.RowKit PFnWindowOne Go.Proofs.YtgdbeiadlgkedaaGreatDoorW.PrintWords
theorem spanTime_any (t : Int) (w : World) : Calls Tryz.prog 30 #[.int .i64 t] w fun e w' => e = .returned (.bool (decide (-9223372036854775 ≤ t ∧ t ≤ 9223372036854775))) ∧ Below w.heap.size w w' := by
  refine (PFnHeaderBack.spec_CodSpanTime.calls t (decide (-9223372036854775 ≤ t ∧ t ≤ 9223372036854775)) w ?_).mono (by rintro e w' ⟨he, m, rfl⟩; exact ⟨he, below_drewN (Below.refl _ _) m⟩)
  unfold PFnHeaderBack.spec_CodSpanTime.f
  by_cases h : t ≥ -9223372036854775
  · rw [if_pos h]
    congr 1
    by_cases h2 : t ≤ 9223372036854775
    · rw [decide_eq_true h2, decide_eq_true ⟨h, h2⟩]
    · rw [decide_eq_false h2, decide_eq_false (fun q => h2 q.2)]
  · rw [if_neg h, decide_eq_false (fun q => h q.1)]
def paneOk (t i n : Int) : Prop := 0 ≤ t ∧ t ≤ 3 ∧ (t = 0 → n = -1 ∨ (i = 0 ∧ n = 0))
instance (t i n : Int) : Decidable (paneOk t i n) := by unfold paneOk; infer_instance
theorem paneIs_any (t : Int) (f l : Bool) (i n : Int) (w : World) : Calls Tryz.prog 51 #[.agg #[.int .i64 t, .bool f, .bool l, .int .i64 i, .int .i64 n]] w fun e w' => e = .returned (.bool (decide (paneOk t i n))) ∧ Below w.heap.size w w' := by
  refine PFnHeaderBack.spec_CodPaneIs.calls t f l i n _ w ?_
  unfold PFnHeaderBack.spec_CodPaneIs.f
  by_cases h0 : t ≥ 0
  · rw [if_pos h0]
    by_cases h1 : t ≤ 3
    · rw [if_pos h1]
      by_cases h2 : t = 0
      · rw [if_pos h2]
        by_cases h3 : n = -1
        · rw [if_pos h3, decide_eq_true (show paneOk t i n from ⟨h0, h1, fun _ => .inl h3⟩)]
        · rw [if_neg h3]
          by_cases h4 : i = 0
          · rw [if_pos h4]
            by_cases h5 : n = 0
            · rw [decide_eq_true (show paneOk t i n from ⟨h0, h1, fun _ => .inr ⟨h4, h5⟩⟩), h5]; rfl
            · rw [decide_eq_false (fun q : paneOk t i n => (q.2.2 h2).elim h3 (fun z => h5 z.2))]
              congr 1; exact beq_eq_false_iff_ne.2 h5
          · rw [if_neg h4, decide_eq_false (fun q : paneOk t i n => (q.2.2 h2).elim h3 (fun z => h4 z.1))]
      · rw [if_neg h2, decide_eq_true (show paneOk t i n from ⟨h0, h1, fun q => absurd q h2⟩)]
    · rw [if_neg h1, decide_eq_false (fun q : paneOk t i n => h1 q.2.1)]
  · rw [if_neg h0, decide_eq_false (fun q : paneOk t i n => h0 q.1)]
abbrev hdV (iv : Bool) (A : Option Addr) (n c : Nat) (tm t : Int) (f ll : Bool) (i k : Int) : Array Value := #[.bool iv, .slice A n c, .int .i64 tm, .int .i64 t, .bool f, .bool ll, .int .i64 i, .int .i64 k]
theorem D1.cells8 {w x : World} {v0 v1 v2 v3 v4 v5 v6 v7 : Value} {T : TypeId} (h : D1 w #[v0, v1, v2, v3, v4, v5, v6, v7] T x) : x.cell? ⟨w.heap.size, 0, none⟩ = some v0 ∧ x.cell? ⟨w.heap.size, 1, none⟩ = some v1 ∧ x.cell? ⟨w.heap.size, 2, none⟩ = some v2 ∧ x.cell? ⟨w.heap.size, 3, none⟩ = some v3 ∧ x.cell? ⟨w.heap.size, 4, none⟩ = some v4 ∧ x.cell? ⟨w.heap.size, 5, none⟩ = some v5 ∧ x.cell? ⟨w.heap.size, 6, none⟩ = some v6 ∧ x.cell? ⟨w.heap.size, 7, none⟩ = some v7 :=
  ⟨(blk_cell h.1 0).trans rfl, (blk_cell h.1 1).trans rfl, (blk_cell h.1 2).trans rfl, (blk_cell h.1 3).trans rfl, (blk_cell h.1 4).trans rfl, (blk_cell h.1 5).trans rfl, (blk_cell h.1 6).trans rfl, (blk_cell h.1 7).trans rfl⟩
theorem fits3_any (iv : Bool) (A : Option Addr) (n c : Nat) (tm t : Int) (f ll : Bool) (i k : Int) (w : World) : Calls Tryz.prog 19 #[.agg (hdV iv A n c tm t f ll i k)] w fun e w' => e = .returned (.bool (decide (n ≤ 2147483647))) ∧ Below w.heap.size w w' := by
  have HB := Lib.hid (below_alloc (Below.refl w.heap.size w) (.cells (hdV iv A n c tm t f ll i k) 44))
  by_cases h : n ≤ 2147483647
  · have h2 : ¬ 2147483647 < (n : Int) := by omega
    rw [decide_eq_true h]
    clear h
    go_enter Tryz.func19, Tryz.ntmps19
    go_wp2
    go_ret
    exact ⟨rfl, HB.out⟩
  · have h2 : 2147483647 < (n : Int) := by omega
    rw [decide_eq_false h]
    clear h
    go_enter Tryz.func19, Tryz.ntmps19
    go_wp2
    go_ret
    exact ⟨rfl, HB.out⟩
set_option maxHeartbeats 4000000 in
set_option maxRecDepth 100000 in
theorem codPaneZ (t : Int) (f l : Bool) (i n : Int) (w : World) :
    Calls Tryz.prog 24 #[.agg #[.int .i64 t, .bool f, .bool l, .int .i64 i, .int .i64 n]] w fun e w' => e = .returned (.agg #[.int .i64 t, .bool f, .bool l, .int .i64 i, .int .i64 n]) ∧ Below w.heap.size w w' := by
  go_enter Tryz.func24, Tryz.ntmps24
  go_wp2
  go_returns
  exact ⟨rfl, by repeat (first | exact Below.refl _ _ | apply below_alloc | apply below_drew | refine below_set ?_ (by simp) | (refine Below.setCell ?_ (by simp) _))⟩
def headOk (l : List S23) (tm t i k : Int) : Prop := l.length ≤ 20 ∧ (∀ x ∈ l, okS (toS x)) ∧ (-9223372036854775 ≤ tm ∧ tm ≤ 9223372036854775) ∧ paneOk t i k
set_option maxHeartbeats 4000000 in
set_option maxRecDepth 100000 in
theorem headFew_any (iv : Bool) (A : Option Addr) (c : Nat) (l : List S23) (hc : l.length ≤ c) (tm t : Int) (f ll : Bool) (i k : Int) : ∃ b : Bool, (b = true → headOk l tm t i k) ∧ ∀ w, Kd.C k23 w A l.length l → Calls Tryz.prog 20 #[.agg (hdV iv A l.length c tm t f ll i k)] w fun e w' => e = .returned (.bool b) ∧ Below w.heap.size w w' := by
  obtain ⟨bF, hf, hg⟩ := few_f l
  cases bF with
  | false =>
    refine ⟨false, (fun h => by cases h), fun w hC => ?_⟩
    have HF := Lib.hid (laws_codSpanFew.calls _ A c l false (w.alloc (.cells (hdV iv A l.length c tm t f ll i k) 44)) (C_move hC (below_alloc (Below.refl _ _) _)) hc hf)
    have HB := Lib.hid (below_alloc (Below.refl w.heap.size w) (.cells (hdV iv A l.length c tm t f ll i k) 44))
    clear hf hg hC
    go_enter Tryz.func20, Tryz.ntmps20
    go_wp2_with (go_at_call 10; go_loud ((with_reducible refine HF.out.mono ?_); rintro e_ w1 ⟨rfl, hb⟩; have HB1 := Lib.hid (below_then HB.out HB.out.size hb); clear hb))
    go_ret
    exact ⟨rfl, HB1.out⟩
  | true =>
    obtain ⟨g1, g2⟩ := hg rfl
    refine ⟨decide ((-9223372036854775 ≤ tm ∧ tm ≤ 9223372036854775) ∧ paneOk t i k), fun h => ⟨g1, g2, (of_decide_eq_true h).1, (of_decide_eq_true h).2⟩, fun w hC => ?_⟩
    have HF := Lib.hid (laws_codSpanFew.calls _ A c l true (w.alloc (.cells (hdV iv A l.length c tm t f ll i k) 44)) (C_move hC (below_alloc (Below.refl _ _) _)) hc hf)
    have HK := Lib.hid (show D1 w (hdV iv A l.length c tm t f ll i k) 44 (w.alloc (.cells (hdV iv A l.length c tm t f ll i k) 44)) from ⟨heap_alloc_new w _, below_alloc (Below.refl w.heap.size w) _⟩)
    clear hf hg hC
    by_cases h1 : -9223372036854775 ≤ tm ∧ tm ≤ 9223372036854775
    · have HS := Lib.hid (fun W => by have := spanTime_any tm W; rw [decide_eq_true h1] at this; exact this)
      have HCP := Lib.hid (fun W => codPaneZ t f ll i k W)
      have HPI := Lib.hid (fun W => paneIs_any t f ll i k W)
      have he : decide ((-9223372036854775 ≤ tm ∧ tm ≤ 9223372036854775) ∧ paneOk t i k) = decide (paneOk t i k) := by by_cases h2 : paneOk t i k <;> simp [h1, h2]
      rw [he]
      clear h1 he g1 g2
      go_enter Tryz.func20, Tryz.ntmps20
      go_wp2_with (first
        | (go_at_call 10; go_loud ((with_reducible refine HF.out.mono ?_); rintro e_ w1 ⟨rfl, hb⟩; have HK1 := Lib.hid (HK.out.step hb); have K1 := HK1.out.cells8; clear hb))
        | (go_at_call 30; go_loud ((with_reducible refine (HS.out _).mono ?_); rintro e_ w2 ⟨rfl, hb⟩; have HK2 := Lib.hid (HK1.out.step hb); clear K1; have K2 := HK2.out.cells8; clear hb))
        | (go_at_call 24; go_loud ((with_reducible refine (HCP.out _).mono ?_); rintro e_ w3 ⟨rfl, hb⟩; have HK3 := Lib.hid (HK2.out.step hb); clear K2; clear hb))
        | (go_at_call 51; go_loud ((with_reducible refine (HPI.out _).mono ?_); rintro e_ w4 ⟨rfl, hb⟩; have HK4 := Lib.hid (HK3.out.step hb); clear hb)))
      go_ret
      exact ⟨rfl, HK4.out.2⟩
    · have HS := Lib.hid (fun W => by have := spanTime_any tm W; rw [decide_eq_false h1] at this; exact this)
      rw [decide_eq_false (fun q => h1 q.1)]
      clear h1 g1 g2
      go_enter Tryz.func20, Tryz.ntmps20
      go_wp2_with (first
        | (go_at_call 10; go_loud ((with_reducible refine HF.out.mono ?_); rintro e_ w1 ⟨rfl, hb⟩; have HK1 := Lib.hid (HK.out.step hb); have K1 := HK1.out.cells8; clear hb))
        | (go_at_call 30; go_loud ((with_reducible refine (HS.out _).mono ?_); rintro e_ w2 ⟨rfl, hb⟩; have HK2 := Lib.hid (HK1.out.step hb); clear K1; clear hb)))
      go_ret
      exact ⟨rfl, HK2.out.2⟩
end Go.Proofs.YtgdbeiadlgkedaaGreatDoor
set_option linter.unusedVariables false
set_option linter.unusedSimpArgs false
namespace Go.Proofs.YtgdbeiadlgkedaaGreatDoor
open Go.RowKit
inductive PnR where
  | right (t : Nat) (f l : Bool) (i n : Int) (k : Nat)
  | wrong
  | unsaid
def rdPane : List UInt8 → PnR
  | [] => .wrong
  | x :: r =>
    if x.toNat / 16 = 0 then .right (x.toNat / 4 % 4) (decide (x.toNat % 2 = 1)) (decide (x.toNat / 2 % 2 = 1)) 0 0 1
    else if x.toNat / 16 = 1 then
      match vrd 0 0 r with
      | none => .wrong
      | some (v, k) => .right (x.toNat / 4 % 4) (decide (x.toNat % 2 = 1)) (decide (x.toNat / 2 % 2 = 1)) (wrap64 (v : Nat)) (if x.toNat / 4 % 4 = 0 then -1 else wrap64 (v : Nat)) (1 + k)
    else if x.toNat / 16 = 2 then
      match vrd 0 0 r with
      | none => .wrong
      | some (v, k) =>
        match vrd 0 0 (r.drop k) with
        | none => .wrong
        | some (v2, k2) => .right (x.toNat / 4 % 4) (decide (x.toNat % 2 = 1)) (decide (x.toNat / 2 % 2 = 1)) (wrap64 (v : Nat)) (wrap64 (v2 : Nat)) (1 + k + k2)
    else .unsaid
theorem drop_cons {l r : List UInt8} {i : Nat} {x : UInt8} (h : l.drop i = x :: r) : l[i]? = some x ∧ l.drop (i + 1) = r := by
  refine ⟨?_, ?_⟩
  · have := congrArg (fun l => l[0]?) h
    simpa [List.getElem?_drop] using this
  · rw [← List.drop_drop, h]; rfl
theorem decPane_right (B : Nat) (pe pl : Addr) (r g : Nat) (l : List UInt8) (i : Nat) (w : World) (h : Rd r g l i w) (he : Env B pe pl w) (hBr : B ≤ r) (hB : B ≤ w.heap.size) (t : Nat) (f la : Bool) (ix n : Int) (k : Nat) (hp : rdPane (l.drop i) = .right t f la ix n k) :
    Calls Tryz.prog 85 #[rdI r] w fun e w' => e = .returned (.tuple #[.agg #[.int .u8 (t : Nat), .bool f, .bool la, .int .i64 ix, .int .i64 n], .nilIface]) ∧ w.grownBy w' (some r) ∧ Rd r g l (i + k) w' := by
  cases hd : l.drop i with
  | nil => rw [hd] at hp; cases hp
  | cons x rr =>
    obtain ⟨hx, hr⟩ := drop_cons hd
    rw [hd] at hp
    simp only [rdPane] at hp
    by_cases c0 : x.toNat / 16 = 0
    · rw [if_pos c0] at hp
      injection hp with e1 e2 e3 e4 e5 e6
      subst e1 e2 e3 e4 e5 e6
      exact decPane_0 r g l i x w h hx c0
    rw [if_neg c0] at hp
    by_cases c1 : x.toNat / 16 = 1
    · rw [if_pos c1] at hp
      cases hv : vrd 0 0 rr with
      | none => rw [hv] at hp; cases hp
      | some p =>
        obtain ⟨v, kk⟩ := p
        rw [hv] at hp
        injection hp with e1 e2 e3 e4 e5 e6
        rw [← hr] at hv
        subst e1 e2 e3 e4 e5 e6
        rw [← Nat.add_assoc]
        by_cases y : x.toNat / 4 % 4 = 0
        · rw [if_pos y]; exact decPane_1z r g l i x w h hx c1 y B pe pl he hBr hB v kk hv
        · rw [if_neg y]; exact decPane_1 r g l i x w h hx c1 y B pe pl he hBr hB v kk hv
    rw [if_neg c1] at hp
    by_cases c2 : x.toNat / 16 = 2
    · rw [if_pos c2] at hp
      cases hv : vrd 0 0 rr with
      | none => rw [hv] at hp; cases hp
      | some p =>
        obtain ⟨v, kk⟩ := p
        rw [hv] at hp
        simp only at hp
        cases hv2 : vrd 0 0 (rr.drop kk) with
        | none => rw [hv2] at hp; cases hp
        | some p2 =>
          obtain ⟨v2, k2⟩ := p2
          rw [hv2] at hp
          injection hp with e1 e2 e3 e4 e5 e6
          rw [← hr] at hv hv2
          rw [List.drop_drop] at hv2
          subst e1 e2 e3 e4 e5 e6
          rw [show i + (1 + kk + k2) = i + 1 + kk + k2 by omega]
          exact decPane_2 r g l i x w h hx c2 B pe pl he hBr hB v kk v2 k2 hv hv2
    · rw [if_neg c2] at hp; cases hp
theorem phead_more {t : Nat} (h : t < 4) (f l : Bool) (q : Nat) (hq : q < 3) : ((phead t f l + 16 * q).toUInt8).toNat / 16 = q ∧ ((phead t f l + 16 * q).toUInt8).toNat / 4 % 4 = t ∧ decide (((phead t f l + 16 * q).toUInt8).toNat % 2 = 1) = f ∧ decide (((phead t f l + 16 * q).toUInt8).toNat / 2 % 2 = 1) = l := by
  have hp := phead_lt h f l
  rw [u8_toNat (by omega)]
  rcases (show t = 0 ∨ t = 1 ∨ t = 2 ∨ t = 3 by omega) with rfl | rfl | rfl | rfl <;> rcases (show q = 0 ∨ q = 1 ∨ q = 2 by omega) with rfl | rfl | rfl <;> cases f <;> cases l <;> decide
theorem u64n_wrap64 (n : Int) (h : -9223372036854775808 ≤ n ∧ n ≤ 9223372036854775807) : wrap64 (u64n n : Int) = n := by unfold u64n wrap64; omega
theorem pane_read (q : Nat) (hq : q < 4) (pf pl : Bool) (pi pn : Int) (hi : -9223372036854775808 ≤ pi ∧ pi ≤ 9223372036854775807) (hpn : -9223372036854775808 ≤ pn ∧ pn ≤ 9223372036854775807) (hok : q = 0 → pn = -1 ∨ (pi = 0 ∧ pn = 0)) (rest : List UInt8) :
    rdPane (pbytes q pf pl pi pn ++ rest) = .right q pf pl (if q = 3 then 0 else pi) (if q = 3 then 0 else pn) (pbytes q pf pl pi pn).length := by
  unfold pbytes
  by_cases c1 : (pi = 0 ∧ pn = 0) ∨ q = 3
  · rw [if_pos c1]
    obtain ⟨p1, p2, p3, p4⟩ := phead_more hq pf pl 0 (by decide)
    simp only [Nat.mul_zero, Nat.add_zero] at p1 p2 p3 p4
    show rdPane ((phead q pf pl).toUInt8 :: rest) = _
    simp only [rdPane]
    rw [if_pos p1, p2, p3, p4]
    have hz : (if q = 3 then (0 : Int) else pi) = 0 ∧ (if q = 3 then (0 : Int) else pn) = 0 := by
      by_cases h3 : q = 3
      · rw [if_pos h3, if_pos h3]; exact ⟨rfl, rfl⟩
      · rw [if_neg h3, if_neg h3]; rcases c1 with c | c
        · exact c
        · exact absurd c h3
    rw [hz.1, hz.2]; rfl
  have h3 : ¬ q = 3 := fun h => c1 (.inr h)
  rw [if_neg c1, if_neg h3, if_neg h3]
  by_cases c2 : pi = pn ∨ q = 0
  · rw [if_pos c2]
    obtain ⟨p1, p2, p3, p4⟩ := phead_more hq pf pl 1 (by decide)
    rw [Nat.mul_one] at p1 p2 p3 p4
    show rdPane ((phead q pf pl + 16).toUInt8 :: (Lib.uvarint (u64n pi) ++ rest)) = _
    simp only [rdPane]
    rw [if_neg (by rw [p1]; decide), if_pos p1, vrd_uv rest (u64n_lt pi)]
    simp only [p2, p3, p4]
    rw [u64n_wrap64 pi hi, show 1 + (Lib.uvarint (u64n pi)).length = ((phead q pf pl + 16).toUInt8 :: Lib.uvarint (u64n pi)).length by rw [List.length_cons]; omega]
    by_cases y0 : q = 0
    · rw [if_pos y0]
      have hm : pn = -1 := by
        rcases hok y0 with h | h
        · exact h
        · exact absurd (.inl h) c1
      rw [hm]
    · rw [if_neg y0]
      have hm : pi = pn := by
        rcases c2 with h | h
        · exact h
        · exact absurd h y0
      rw [hm]
  · rw [if_neg c2]
    obtain ⟨p1, p2, p3, p4⟩ := phead_more hq pf pl 2 (by decide)
    show rdPane ((phead q pf pl + 32).toUInt8 :: ((Lib.uvarint (u64n pi) ++ Lib.uvarint (u64n pn)) ++ rest)) = _
    simp only [show 16 * 2 = 32 from rfl] at p1 p2 p3 p4
    simp only [rdPane]
    rw [if_neg (by rw [p1]; decide), if_neg (by rw [p1]; decide), if_pos p1, List.append_assoc, vrd_uv _ (u64n_lt pi)]
    simp only [List.drop_left]
    rw [vrd_uv _ (u64n_lt pn)]
    simp only [p2, p3, p4]
    rw [u64n_wrap64 pi hi, u64n_wrap64 pn hpn]
    congr 1
    rw [List.length_cons, List.length_append]; omega
end Go.Proofs.YtgdbeiadlgkedaaGreatDoor
set_option linter.unusedVariables false
set_option linter.unusedSimpArgs false
namespace Go.Proofs.YtgdbeiadlgkedaaGreatDoor
open Go.RowKit PFnWindowOne Go.Proofs.YtgdbeiadlgkedaaGreatDoorW.PrintWords
def tmOf (l : List UInt8) : Int := wrap64 (wrap64 (Lib.beNat (l.take 8) : Nat) + -9223372036854775808)
def rdWin (l : List UInt8) : Option (S23 × Nat) :=
  if l.length < 8 then none else (vrd 0 0 (l.drop 8)).map fun p => (⟨false, nrm (wrap64 (tmOf l - wrap64 (p.1 : Nat))), tmOf l⟩, 8 + p.2)
def rdWins : Nat → List UInt8 → Option (List S23 × Nat)
  | 0, _ => some ([], 0)
  | n + 1, l => (rdWin l).bind fun p => (rdWins n (l.drop p.2)).map fun q => (p.1 :: q.1, p.2 + q.2)
theorem rdWins_ok {m : Nat} {l : List UInt8} {ys : List S23} {q : Nat} (h : rdWins (m + 1) l = some (ys, q)) : ∃ x k ys' q', rdWin l = some (x, k) ∧ rdWins m (l.drop k) = some (ys', q') ∧ ys = x :: ys' ∧ q = k + q' := by
  simp only [rdWins] at h
  obtain ⟨⟨x, k⟩, h1, h2⟩ := Option.bind_eq_some_iff.1 h
  obtain ⟨⟨ys', q'⟩, h3, h4⟩ := Option.map_eq_some_iff.1 h2
  simp only [Prod.mk.injEq] at h4
  exact ⟨x, k, ys', q', h1, h3, h4.1.symm, h4.2.symm⟩
theorem rdWin_some {l : List UInt8} {x : S23} {k : Nat} (h : rdWin l = some (x, k)) : 8 ≤ l.length ∧ ∃ v k', vrd 0 0 (l.drop 8) = some (v, k') ∧ x = ⟨false, nrm (wrap64 (tmOf l - wrap64 (v : Nat))), tmOf l⟩ ∧ k = 8 + k' := by
  unfold rdWin at h
  split at h
  · cases h
  · rename_i h8
    obtain ⟨⟨v, k'⟩, h1, h2⟩ := Option.map_eq_some_iff.1 h
    simp only [Prod.mk.injEq] at h2
    exact ⟨by omega, v, k', h1, h2.1.symm, h2.2.symm⟩
theorem drop_ge {i n : Nat} {l : List UInt8} (h : n ≤ (l.drop i).length) (hi : i ≤ l.length) : i + n ≤ l.length := by rw [List.length_drop] at h; omega
theorem decSingle_win (B : Nat) (pe pl : Addr) (a : Option Addr) (r g : Nat) (l : List UInt8) (i : Nat) (w : World) (h : Rd r g l i w) (he : Env B pe pl w) (hBr : B ≤ r) (hB : B ≤ w.heap.size) (x : S23) (k : Nat) (hx : rdWin (l.drop i) = some (x, k)) :
    Calls Tryz.prog 160 #[.pointer a, rdI r] w fun e w' => e = .returned (.tuple #[ifv x, .nilIface]) ∧ w.grownBy w' (some r) ∧ Rd r g l (i + k) w' := by
  obtain ⟨h8, v, k', hv, rfl, rfl⟩ := rdWin_some hx
  have := decSingle_ok B pe pl a r g l i w h he hBr hB (drop_ge h8 h.le) (tmOf (l.drop i)) rfl v k' (by rw [List.drop_drop] at hv; exact hv)
  rw [Nat.add_assoc] at this
  exact this
def IfRow (gb n : Nat) (xs : List S23) (w : World) : Prop := ∃ cs : Array Value, w.heap[gb]? = some (.cells cs 88 (0, 0)) ∧ cs.size = n ∧ ∀ (j : Nat) (x : S23), xs[j]? = some x → cs[j]? = some (ifv x)
theorem IfRow.set {gb n : Nat} {xs : List S23} {w : World} (h : IfRow gb n xs w) (x : S23) (hl : xs.length < n) : IfRow gb n (xs ++ [x]) (w.setCell ⟨gb, xs.length, none⟩ (ifv x)) := by
  obtain ⟨cs, h1, h2, h3⟩ := h
  refine ⟨cs.setIfInBounds xs.length (ifv x), Lib.heap_setCell_same (i := xs.length) h1 (ifv x), by simp [h2], fun j y hj => ?_⟩
  rw [Array.getElem?_setIfInBounds]
  by_cases e : xs.length = j
  · subst e
    rw [List.getElem?_append_right (Nat.le_refl _)] at hj
    simp only [Nat.sub_self, List.getElem?_cons_zero, Option.some.injEq] at hj
    subst hj
    rw [if_pos rfl, if_pos (by omega)]
  · rw [if_neg e]
    refine h3 j y ?_
    have hlt := (List.getElem?_eq_some_iff.1 hj).1
    rw [List.length_append, List.length_singleton] at hlt
    rwa [List.getElem?_append_left (by omega)] at hj
theorem IfRow.move {gb n : Nat} {xs : List S23} {w w' : World} (h : IfRow gb n xs w) (hk : w'.heap[gb]? = w.heap[gb]?) : IfRow gb n xs w' := by
  obtain ⟨cs, h1, h2, h3⟩ := h
  exact ⟨cs, hk.trans h1, h2, h3⟩
theorem IfRow.lt {gb n : Nat} {xs : List S23} {w : World} (h : IfRow gb n xs w) : gb < w.heap.size := by obtain ⟨cs, h1, _⟩ := h; exact blk_lt h1
theorem IfRow.frozen {gb n : Nat} {xs : List S23} {w : World} (h : IfRow gb n xs w) (i : Nat) : w.frozen? ⟨gb, i, none⟩ = false := by obtain ⟨cs, h1, _⟩ := h; exact blk_frozen h1 i
theorem IfRow.cell {gb n : Nat} {xs : List S23} {w : World} (h : IfRow gb n xs w) (i : Nat) (hi : i < n) : ∃ v, w.cell? ⟨gb, i, none⟩ = some v := by
  obtain ⟨cs, h1, h2, h3⟩ := h
  exact ⟨cs[i]'(by omega), by rw [blk_cell h1]; simp [h2, hi]⟩
theorem IfRow.C {gb : Nat} {xs : List S23} {w : World} (h : IfRow gb xs.length xs w) (hl : xs.length ≤ 1000000) : Kd.C kIf w (some ⟨gb, 0, none⟩) xs.length xs := by
  obtain ⟨cs, h1, h2, h3⟩ := h
  refine ⟨rfl, by omega, fun _ => ⟨⟨gb, 0, none⟩, rfl, fun j p hj => ⟨[ifv p], rfl, rfl, fun i u hu => ?_⟩⟩⟩
  obtain ⟨rfl, rfl⟩ : i = 0 ∧ u = ifv p := by
    cases i with
    | zero => exact ⟨rfl, by simpa using hu.symm⟩
    | succ i => simp at hu
  show w.cell? (Addr.add ⟨gb, 0, none⟩ (j * 1 + 0)) = _
  rw [Nat.mul_one, Nat.add_zero, Lib.addr_add, blk_cell h1]
  have : 0 + j = j := by omega
  rw [this]
  exact h3 j p hj
def mkI (n : Nat) : Obj := .cells (madeCells #[.nilIface] (n * 1)) 88
theorem mk_ifs (n : Nat) (hn : n ≤ 1000000) : ∀ W : World, (Instr.makeSlice 107 (.int .i32 (n : Int)) (.int .i32 (n : Int))).run Tryz.prog W = .ok (.slice (some ⟨W.heap.size, 0, none⟩) n n) (W.alloc (mkI n)) := by
  intro W
  have hm : (Tryz.prog.info? 88).map (fun i => (i.zero, i.size, i.bytes)) = some (some .nilIface, 1, 16) := by kernel_rfl
  obtain ⟨i, hi, he⟩ := Option.map_eq_some_iff.1 hm
  simp only [Prod.mk.injEq] at he
  obtain ⟨hz, hs, hb⟩ := he
  have h := run_makeSlice (P := Tryz.prog) W 107 88 i _ Tryz.underlying107 hi hz .i32 .i32 (n : Int) (n : Int) (by omega) (Int.le_refl _) (by rw [hs]; simp; omega) (by rw [hb]; simp; omega) (by omega)
  rw [hs, show (Value.nilIface).cells = #[.nilIface] from rfl] at h
  simpa [mkI] using h
theorem mkI_row (w : World) (n : Nat) : IfRow w.heap.size n [] (w.alloc (mkI n)) := ⟨madeCells #[.nilIface] (n * 1), heap_alloc_new w _, by rw [size_madeCells, Nat.mul_one], fun j x h => by simp at h⟩
end Go.Proofs.YtgdbeiadlgkedaaGreatDoor
set_option linter.unusedVariables false
set_option linter.unusedSimpArgs false
namespace Go.Proofs.YtgdbeiadlgkedaaGreatDoor
open Go.RowKit PFnWindowOne Go.Proofs.YtgdbeiadlgkedaaGreatDoorW.PrintWords
theorem grown_setgeZ {r : Nat} {w w' : World} (h : w.grownBy w' (some r)) {p : Addr} (hp : w.heap.size ≤ p.block) (v : Value) : w.grownBy (w'.setCell p v) (some r) :=
  ⟨h.os, h.tape, h.output, by simpa [World.setCell] using h.size, fun i hi hr => (Below.heap_setCell _ _ _ _ (by omega)).trans (h.block i hi hr)⟩
set_option maxHeartbeats 8000000 in
set_option maxRecDepth 100000 in
theorem decAll_ok (B : Nat) (pe pl : Addr) (a : Option Addr) (r g : Nat) (l : List UInt8) (i : Nat) (w : World) (h : Rd r g l i w) (he : Env B pe pl w) (hBr : B ≤ r) (hB : B ≤ w.heap.size) (hi : i + 4 ≤ l.length) (n : Nat) (hn : wrap32 (Lib.beNat ((l.drop i).take 4) : Nat) = (n : Int)) (hn2 : n ≤ 10000) (xs : List S23) (q : Nat) (hx : rdWins n (l.drop (i + 4)) = some (xs, q)) :
    Calls Tryz.prog 159 #[.pointer a, rdI r] w fun e w' => ∃ gb, e = .returned (.tuple #[.slice (some ⟨gb, 0, none⟩) n n, .nilIface]) ∧ IfRow gb n xs w' ∧ xs.length = n ∧ w.heap.size ≤ gb ∧ w.grownBy w' (some r) ∧ Rd r g l (i + 4 + q) w' := by
  have hC := decI32_ok r g l i w h hi
  rw [hn] at hC
  have HC := Lib.hid hC
  have HX := Lib.hid hx
  have HE := Lib.hid (And.intro he (And.intro hBr hB))
  have HRG := Lib.hid (And.intro h.lt h.ltg)
  have km := mk_ifs n (by omega)
  clear h he hBr hB hi hn hx hC
  go_enter Tryz.func159, Tryz.ntmps159
  go_wp2_with (go_at_call 84; go_loud (refine HC.out.mono ?_; rintro e_ w1 ⟨rfl, hg, hr⟩; have H1 := Lib.hid (And.intro hg hr); clear hg hr))
  have HR1 := Lib.hid (mkI_row w1 n)
  have HG1 := Lib.hid (show w.grownBy (w1.alloc (mkI n)) (some r) from grown_alloc H1.out.1 _)
  have HD1 := Lib.hid (show Rd r g l (i + 4) (w1.alloc (mkI n)) from H1.out.2.alloc _)
  have HS := Lib.hid (show w.heap.size ≤ w1.heap.size from H1.out.1.size)
  clear km HC H1
  generalize w1.alloc (mkI n) = W1 at HR1 HG1 HD1 ⊢
  go_loopg [9] n (fun kq v9 w' => ∃ (k : Nat) (ys zs : List S23) (p q' : Nat), k ≤ n ∧ Aside0 (kq = n - k) ∧ v9 = .int .i32 k ∧ Hid (xs = ys ++ zs ∧ ys.length = k ∧ rdWins (n - k) (l.drop p) = some (zs, q') ∧ p + q' = i + 4 + q) ∧ Hid (IfRow w1.heap.size n ys w') ∧ Hid (Rd r g l p w') ∧ Hid (w.grownBy w' (some r)))
  case atStart => exact ⟨0, [], xs, i + 4, q, Nat.zero_le _, ⟨by simp⟩, rfl, Lib.hid ⟨rfl, rfl, HX.out, rfl⟩, HR1, HD1, HG1⟩
  case round =>
    clear HR1 HG1 HD1
    obtain ⟨k, ys, zs, p, q', hk, hq, rfl, HP, HR, HD, HG⟩ := hrel
    by_cases hlt : k < n
    · obtain ⟨m, hm⟩ : ∃ m, n - k = m + 1 := ⟨n - k - 1, by omega⟩
      have hp := HP.out.2.2.1
      rw [hm] at hp
      obtain ⟨x, kk, zs', q'', h1, h2, h3, h4⟩ := rdWins_ok hp
      have HS1 := Lib.hid (decSingle_win B pe pl a r g l p _ HD.out (HE.out.1.below (grown_below HG.out HE.out.2.2 HE.out.2.1)) HE.out.2.1 (Nat.le_trans HE.out.2.2 HG.out.size) x kk h1)
      have HN := Lib.hid (show xs = (ys ++ [x]) ++ zs' ∧ (ys ++ [x]).length = k + 1 ∧ rdWins (n - (k + 1)) (l.drop (p + kk)) = some (zs', q'') ∧ (p + kk) + q'' = i + 4 + q from by
        refine ⟨by rw [HP.out.1, h3]; simp, by rw [List.length_append, HP.out.2.1]; rfl, ?_, by have := HP.out.2.2.2; omega⟩
        rw [show n - (k + 1) = m by omega, ← List.drop_drop]; exact h2)
      obtain ⟨t_, v_, hv_⟩ := ifv_iface x
      have HV := Lib.hid hv_
      rw [hv_] at HS1
      have qi : IntKind.i32.wrap ((k : Int) + 1) = ((k + 1 : Nat) : Int) := by rw [IntKind.wrap_i32]; omega
      have qi2 : wrap32 ((k : Int) + 1) = ((k + 1 : Nat) : Int) := by unfold wrap32; omega
      clear hp h1 h2 h3 h4 hv_ hm
      go_wp2_with (go_at_call 160; go_loud (refine HS1.out.mono ?_; rintro e_ w2 ⟨rfl, hg, hd⟩; have hr2 := HR.out.move (hg.block _ HR.out.lt (by have := HRG.out.1; have := HS.out; intro e; cases e; omega)); have f0 := hr2.frozen k; obtain ⟨v0, c0⟩ := hr2.cell k hlt; have HR2 := Lib.hid hr2; have HD2 := Lib.hid hd; have HG2 := Lib.hid (grown_trans HG.out hg); clear hg hd hr2))
      go_roundg (n - (k + 1))
      case measure => have := hq.out; omega
      case rel =>
        refine ⟨k + 1, ys ++ [x], zs', p + kk, q'', by omega, ⟨rfl⟩, by first | rfl | (simp only [qi]; done) | (simp only [qi2]; done), HN, Lib.hid ?_, Lib.hid ?_, Lib.hid ?_⟩
        · have := HR2.out.set x (by rw [HP.out.2.1]; exact hlt)
          rw [HP.out.2.1, HV.out] at this
          exact this
        · exact HD2.out.set _ _ (by have := HRG.out.1; have := HS.out; show w1.heap.size ≠ r; omega) (by have := HRG.out.2; have := HS.out; show w1.heap.size ≠ g; omega)
        · exact grown_setgeZ HG2.out (by exact HS.out) _
    · have hkl : k = n := by omega
      subst hkl
      go_wp2
      go_ret2
      obtain ⟨e1, e2, e3, e4⟩ := HP.out
      rw [Nat.sub_self] at e3
      obtain ⟨rfl, rfl⟩ : zs = [] ∧ 0 = q' := by simpa [rdWins] using e3
      rw [List.append_nil] at e1
      subst e1
      refine ⟨_, rfl, HR.out, e2, HS.out, HG.out, ?_⟩
      rw [← e4]; exact HD.out
end Go.Proofs.YtgdbeiadlgkedaaGreatDoor
set_option linter.unusedVariables false
set_option linter.unusedSimpArgs false
namespace Go.Proofs.YtgdbeiadlgkedaaGreatDoor
open Go.RowKit PFnWindowOne Go.Proofs.YtgdbeiadlgkedaaGreatDoorW.PrintWords
abbrev gSp : S23 := ⟨true, 0, 0⟩
theorem single_any (w : World) : Calls Tryz.prog 158 #[] w fun x w' => x = .returned (.slice (some ⟨w.heap.size, 0, none⟩) 1 1) ∧ w' = w.alloc (.cells #[.iface 192 (.agg #[])] 88) := by
  go_enter Tryz.func158, Tryz.ntmps158
  go_wp2
  go_ret
  exact ⟨rfl, rfl⟩
theorem mthF_1 (a : Nat) : ∀ W : World, (nilAhead 95 199 (.pointer (some ⟨a, 0, none⟩)) "Decode").run Tryz.prog W = .ok (some false) W := fun _ => by kernel_rfl
theorem mthF_0 (a : Nat) : ∀ W : World, (nilAhead 95 197 (.pointer (some ⟨a, 0, none⟩)) "Decode").run Tryz.prog W = .ok (some false) W := fun _ => by kernel_rfl
theorem nz_id {l : List S23} (h : ∀ x ∈ l, x.f0 = false) : l.map nz = l := by
  induction l with
  | nil => rfl
  | cons x l ih => rw [List.map_cons, ih (fun y hy => h y (List.mem_cons_of_mem _ hy))]; unfold nz; rw [h x List.mem_cons_self]; rfl
end Go.Proofs.YtgdbeiadlgkedaaGreatDoor
set_option linter.unusedVariables false
set_option linter.unusedSimpArgs false
namespace Go.Proofs.YtgdbeiadlgkedaaGreatDoor
open Go.RowKit PFnWindowOne Go.Proofs.YtgdbeiadlgkedaaGreatDoorW.PrintWords
theorem decGlob_row (a : Option Addr) (r g : Nat) (l : List UInt8) (i : Nat) (w : World) (h : Rd r g l i w) (hi : i + 4 ≤ l.length) :
    Calls Tryz.prog 156 #[.pointer a, rdI r] w fun e w' => ∃ gb, e = .returned (.tuple #[.slice (some ⟨gb, 0, none⟩) 1 1, .nilIface]) ∧ IfRow gb 1 [gSp] w' ∧ [gSp].length = 1 ∧ w.heap.size ≤ gb ∧ w.grownBy w' (some r) ∧ Rd r g l (i + 4) w' := by
  have HC := Lib.hid (decI32_ok r g l i w h hi)
  clear h hi
  go_enter Tryz.func156, Tryz.ntmps156
  go_wp2_with (first
    | (go_at_call 84; go_loud (refine HC.out.mono ?_; rintro e_ w1 ⟨rfl, hg, hr⟩; have H1 := Lib.hid (And.intro hg hr); clear hg hr))
    | (go_at_call 158; go_loud (refine (single_any _).mono ?_; rintro e_ w2 ⟨rfl, hw⟩; have H2 := Lib.hid (show IfRow w1.heap.size 1 [gSp] w2 ∧ [gSp].length = 1 ∧ w.heap.size ≤ w1.heap.size ∧ w.grownBy w2 (some r) ∧ Rd r g l (i + 4) w2 by
        rw [hw]
        refine ⟨⟨#[.iface 192 (.agg #[])], heap_alloc_new w1 _, rfl, fun j x hj => ?_⟩, rfl, H1.out.1.size, grown_alloc H1.out.1 _, H1.out.2.alloc _⟩
        cases j with
        | zero => obtain rfl : gSp = x := by simpa using hj
                  rfl
        | succ j => simp at hj); clear hw)))
  go_ret2
  exact ⟨_, rfl, H2.out.1, (by first | exact trivial | rfl), H2.out.2.2⟩
theorem set5_any {W : World} {b : Nat} (v0 v1 v2 v3 v4 : Value) : Below b W (((((W.setCell ⟨b, 0, none⟩ v0).setCell ⟨b, 1, none⟩ v1).setCell ⟨b, 2, none⟩ v2).setCell ⟨b, 3, none⟩ v3).setCell ⟨b, 4, none⟩ v4) := set5_below (Nat.le_refl _) v0 v1 v2 v3 v4
end Go.Proofs.YtgdbeiadlgkedaaGreatDoor
