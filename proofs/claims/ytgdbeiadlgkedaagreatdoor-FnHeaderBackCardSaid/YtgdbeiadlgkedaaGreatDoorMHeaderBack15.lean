/- Contracts and plain laws, several texts in one. -/
import Derived.Test.YtgdbeiadlgkedaaGreatDoorMHeaderBack9
import Derived.Test.YtgdbeiadlgkedaaGreatDoorMHeaderBack10
import Derived.Test.YtgdbeiadlgkedaaGreatDoorMHeaderBack14
import Derived.Deep.Slices
import Derived.Deep.Strs
import Derived.RowKit
import Derived.ChangeArms
import Derived.Lib.SmallJoins
import Derived.ChangeSame
import Derived.Deep.Fields
set_option linter.unusedVariables false
set_option linter.unusedSimpArgs false
namespace Go.Proofs.YtgdbeiadlgkedaaGreatDoor
open Go.RowKit PFnWindowOne Go.Proofs.YtgdbeiadlgkedaaGreatDoorW.PrintWords
theorem eqA50 (d : Nat) (w : World) (x0 y0 : Int) (x1 y1 x2 y2 : Bool) (x3 y3 x4 y4 : Int) :
    (Op.equalIn (d + 2) 50 (.agg #[.int .i64 x0, .bool x1, .bool x2, .int .i64 x3, .int .i64 x4]) (.agg #[.int .i64 y0, .bool y1, .bool y2, .int .i64 y3, .int .i64 y4])).run Tryz.prog w = .ok (x0 == y0 && (x1 == y1 && (x2 == y2 && (x3 == y3 && (x4 == y4))))) w := by
  refine eqA_of Tryz.underlying50 (by kernel_rfl) ?_
  refine eqf_cons (by rfl) (by go_simp; rfl) (by go_simp; rfl) (by go_simp) ?_
  refine eqf_cons (by rfl) (by go_simp; rfl) (by go_simp; rfl) (by go_simp) ?_
  refine eqf_cons (by rfl) (by go_simp; rfl) (by go_simp; rfl) (by go_simp) ?_
  refine eqf_cons (by rfl) (by go_simp; rfl) (by go_simp; rfl) (by go_simp) ?_
  exact eqf_last (by rfl) (by go_simp; rfl) (by go_simp; rfl) (by go_simp)
attribute [local go_sem high] eqA50
theorem C_one32 {w : World} {g : Nat} {T : TypeId} (a : Bool) (s e : Int) (h : w.heap[g]? = some (.cells #[.bool a, .int .i64 s, .int .i64 e] T (0, 0))) : Kd.C k32 w (some ⟨g, 0, none⟩) 1 [(⟨a, s, e⟩ : S32)] := by
  refine ⟨rfl, by simp, fun _ => ⟨⟨g, 0, none⟩, rfl, fun j p hp => ?_⟩⟩
  have hj : j = 0 := by
    by_cases hj : j = 0
    · exact hj
    · rw [List.getElem?_eq_none (by simp; omega)] at hp; cases hp
  subst hj
  have hp' : (⟨a, s, e⟩ : S32) = p := by simpa using hp
  subst hp'
  refine ⟨_, rfl, k32_mk w _, fun i u hu => ?_⟩
  rw [Lib.addr_add, blk_cell h]
  have : (#[Value.bool a, .int .i64 s, .int .i64 e])[i]? = some u := by rw [← hu]; simp
  simpa using this
theorem D1.c8 {w0 x : World} {v0 v1 v2 v3 v4 v5 v6 v7 : Value} {T : TypeId} (h : D1 w0 #[v0, v1, v2, v3, v4, v5, v6, v7] T x) : x.cell? ⟨w0.heap.size, 0, none⟩ = some v0 ∧ x.cell? ⟨w0.heap.size, 1, none⟩ = some v1 ∧ x.cell? ⟨w0.heap.size, 2, none⟩ = some v2 ∧ x.cell? ⟨w0.heap.size, 3, none⟩ = some v3 ∧ x.cell? ⟨w0.heap.size, 4, none⟩ = some v4 ∧ x.cell? ⟨w0.heap.size, 5, none⟩ = some v5 ∧ x.cell? ⟨w0.heap.size, 6, none⟩ = some v6 ∧ x.cell? ⟨w0.heap.size, 7, none⟩ = some v7 := D1.cells8 h
theorem D1.c13 {w0 w1 x : World} {v0 v1 v2 v3 v4 v5 v6 v7 u0 u1 u2 u3 u4 : Value} {T T' : TypeId} (h : D1 w0 #[v0, v1, v2, v3, v4, v5, v6, v7] T x) (h' : D1 w1 #[u0, u1, u2, u3, u4] T' x) : x.cell? ⟨w0.heap.size, 0, none⟩ = some v0 ∧ x.cell? ⟨w0.heap.size, 1, none⟩ = some v1 ∧ x.cell? ⟨w0.heap.size, 2, none⟩ = some v2 ∧ x.cell? ⟨w0.heap.size, 3, none⟩ = some v3 ∧ x.cell? ⟨w0.heap.size, 4, none⟩ = some v4 ∧ x.cell? ⟨w0.heap.size, 5, none⟩ = some v5 ∧ x.cell? ⟨w0.heap.size, 6, none⟩ = some v6 ∧ x.cell? ⟨w0.heap.size, 7, none⟩ = some v7 ∧ x.cell? ⟨w1.heap.size, 0, none⟩ = some u0 ∧ x.cell? ⟨w1.heap.size, 1, none⟩ = some u1 ∧ x.cell? ⟨w1.heap.size, 2, none⟩ = some u2 ∧ x.cell? ⟨w1.heap.size, 3, none⟩ = some u3 ∧ x.cell? ⟨w1.heap.size, 4, none⟩ = some u4 := by
  obtain ⟨a0, a1, a2, a3, a4, a5, a6, a7⟩ := D1.cells8 h
  obtain ⟨b0, b1, b2, b3, b4⟩ := laid5 h'.1
  exact ⟨a0, a1, a2, a3, a4, a5, a6, a7, b0, b1, b2, b3, b4⟩
theorem paneBack_any (t : Nat) (f ll : Bool) (i k : Int) (w : World) : Calls Tryz.prog 25 #[.agg #[.int .i64 (t : Nat), .bool f, .bool ll, .int .i64 i, .int .i64 k]] w fun e w' => e = .returned (.agg #[.int .i64 (t : Nat), .bool f, .bool ll, .int .i64 (if t = 3 then 0 else i), .int .i64 (if t = 3 then 0 else k)]) ∧ Below w.heap.size w w' := by
  refine PFnHeaderBack.spec_CodPaneBack.calls _ f ll i k _ f ll _ _ w ?_
  unfold PFnHeaderBack.spec_CodPaneBack.f
  by_cases h : t = 3
  · rw [if_pos h, if_pos h, if_pos (by omega)]
  · rw [if_neg h, if_neg h, if_neg (by omega)]
set_option maxHeartbeats 8000000 in
set_option maxRecDepth 100000 in
theorem headBack_true (pe pl : Addr) (A : Option Addr) (c : Nat) (l : List S23) (tm : Int) (t : Nat) (f ll : Bool) (i k : Int) (rest : ByteArray) (w : World) (he : Env w.heap.size pe pl w) (hC : Kd.C k23 w A l.length l) (hc : l.length ≤ c) (hh : headOk l tm t i k) (hi : -9223372036854775808 ≤ i ∧ i ≤ 9223372036854775807) (hk : -9223372036854775808 ≤ k ∧ k ≤ 9223372036854775807) (hrest : rest.size ≤ 50)
    (hw : ∀ W, Kd.C k23 W A l.length l → Calls Tryz.prog 20 #[.agg (hdV true A l.length c tm t f ll i k)] W fun e w' => e = .returned (.bool true) ∧ Below W.heap.size W w') :
    Calls Tryz.prog 5 #[.agg (hdV true A l.length c tm t f ll i k), .string rest] w fun x w' => x = .returned (.bool true) ∧ Below w.heap.size w w' := by
  obtain ⟨hl, hok, htm, hpo⟩ := hh
  have HE := Lib.hid he
  have HC := Lib.hid hC
  have HK := Lib.hid (And.intro hc hl)
  have ht : t < 4 := by have := hpo.2.1; omega
  have hp : t = 0 → k = -1 ∨ (i = 0 ∧ k = 0) := fun e => hpo.2.2 (by rw [e]; rfl)
  have hr1 : (rest.size : Int) ≤ 50 := by omega
  have hl1 : (l.length : Int) ≤ 20 := by omega
  have HF := Lib.hid (fun W => by have := fits3_any true A l.length c tm t f ll i k W; rw [decide_eq_true (show l.length ≤ 2147483647 by omega)] at this; exact this)
  have HW := Lib.hid hw
  obtain ⟨S1, hS1⟩ : ∃ S1 : ByteArray, S1 = ⟨(hdB true l tm t f ll i k).toArray⟩ := ⟨_, rfl⟩
  have hl2 : S1.data.toList = hdB true l tm t f ll i k := by rw [hS1]
  have hz : S1.size = (hdB true l tm t f ll i k).length := by rw [← hl2, Array.length_toList]; rfl
  have hz2 : S1.size ≤ 400 := by rw [hz, hdB_len]; have := wsB_len true l hl; have := pbytes_len t f ll i k; omega
  have HH := Lib.hid (fun (A' : Option Addr) (c' : Nat) (W : World) (h1 : Kd.C k23 W A' l.length l) (h2 : l.length ≤ c') => encHd_any true l hok hl A' c' tm (by omega) t ht f ll i k hp W h1 h2)
  rw [← hS1, show kOf true = 1 from rfl] at HH
  obtain ⟨TT, hTT⟩ : ∃ TT, TT = S1 ++ rest := ⟨_, rfl⟩
  have hlT : TT.data.toList = hdB true l tm t f ll i k ++ rest.data.toList := by rw [hTT, ByteArray.data_append, Array.toList_append, hl2]
  have hadd := add_strZ S1 rest (by omega) (by omega)
  rw [← hTT] at hadd
  have hzT : TT.size ≤ 1000 := by rw [hTT, ByteArray.size_append]; omega
  have HB := Lib.hid (fun (W : World) (h1 : Env w.heap.size pe pl W) (h2 : w.heap.size ≤ W.heap.size) => headOf_back w.heap.size pe pl true l hok hl tm (by omega) t ht f ll i k hi hk hp TT (by omega) rest.data.toList hlT S1.size hz W h1 h2)
  rw [show kOf true = 1 from rfl, show wantL true l = l from rfl] at HB
  have HPB := Lib.hid (fun W => paneBack_any t f ll i k W)
  obtain ⟨i', hi'⟩ : ∃ i', i' = (if t = 3 then (0 : Int) else i) := ⟨_, rfl⟩
  obtain ⟨k', hk'⟩ : ∃ k', k' = (if t = 3 then (0 : Int) else k) := ⟨_, rfl⟩
  rw [← hi', ← hk'] at HB HPB
  have HCA := Lib.hid (fun W => codPaneZ t f ll i' k' W)
  have HCB := Lib.hid (fun W => codPaneZ t f ll i k W)
  have HSO := Lib.hid (fun (W : World) (h : Kd.C k23 W A l.length l) => laws_codSpanOf.calls (l.length + 1) A c l _ W h hc (spanOf_f l (by omega)))
  have HSW := Lib.hid (fun (A' : Option Addr) (c' : Nat) (W : World) (h : Kd.C k23 W A' l.length l) (h2 : l.length ≤ c') => laws_codSpanOf.calls (l.length + 1) A' c' l _ W h h2 (spanOf_f l (by first | omega | (show 1 ≤ 100000; decide))))
  have HSM := Lib.hid (fun (A0 : Option Addr) (c0 : Nat) (A1 : Option Addr) (c1 : Nat) (W : World) (h1 : Kd.C k32 W A0 l.length (l.map toS)) (h2 : Kd.C k32 W A1 l.length (l.map toS)) => same_eq A0 c0 A1 c1 l W h1 h2)
  have HD := Lib.hid (show D1 w (hdV true A l.length c tm t f ll i k) 44 (w.alloc (.cells (hdV true A l.length c tm t f ll i k) 44)) from ⟨heap_alloc_new w _, below_alloc (Below.refl w.heap.size w) _⟩)
  have HR := Lib.hid (fun W => kind_any true W)
  rw [show kOf true = 1 from rfl] at HR
  clear he hC hc hl hok htm hpo hw ht hp hS1 hl2 hz hz2 hTT hlT hzT hi' hk' hi hk hrest
  go_enter Tryz.func5, Tryz.ntmps5
  go_wp2_with (first
    | (go_at_call 19; go_loud ((with_reducible refine (HF.out _).mono ?_); rintro e_ w1 ⟨rfl, hb⟩; have HD1 := Lib.hid (HD.out.step hb); have K1 := HD1.out.cells8; clear hb))
    | (go_at_call 20; go_loud ((with_reducible refine (HW.out w1 (C_move HC.out (D1.bel HD1.out))).mono ?_); rintro e_ w2 ⟨rfl, hb⟩; have HD2 := Lib.hid (HD1.out.step hb); clear K1; have K2 := HD2.out.cells8; clear hb))
    | (go_at_call 21; go_loud (refine (HR.out _).mono ?_; rintro e_ w3 ⟨rfl, rfl⟩))
    | (go_at_call 15; go_loud ((with_reducible refine (HSO.out w2 (C_move HC.out (D1.bel HD2.out))).mono ?_); rintro e_ w4 ⟨v, rfl, hR6, hb⟩; obtain ⟨A6, c6, e6⟩ := Kd.R_slice hR6; subst e6; (try rw [List.length_map]); have HD4 := Lib.hid (D1.step HD2.out hb); have K4 := D1.c8 HD4.out; have HD5 := Lib.hid (D1.step HD4.out (show Below w4.heap.size w4 w4 from Below.refl _ _)); have HCW := Lib.hid (show Kd.C k32 w4 A6 l.length (l.map toS) from by have := (Kd.R_reads' hR6).2.2; rwa [List.length_map] at this); clear K2; clear hb hR6)))
  have HD6 := Lib.hid (show D1 w (hdV true A l.length c tm t f ll i k) 44 w4.drew from D1.drewN HD5.out 1)
  have K6 := D1.c8 HD6.out
  have HCW6 := Lib.hid (show Kd.C k32 w4.drew A6 l.length (l.map toS) from Kd.C_below HCW.out (below_drewN (Below.refl _ _) 1))
  clear K4
  go_region_held3 (fun w' => w'.cell? ⟨w.heap.size, 0, none⟩ = some (.bool true) ∧ w'.cell? ⟨w.heap.size, 1, none⟩ = some (.slice A l.length c) ∧ w'.cell? ⟨w.heap.size, 2, none⟩ = some (.int .i64 tm) ∧ w'.cell? ⟨w.heap.size, 3, none⟩ = some (.int .i64 (t : Nat)) ∧ w'.cell? ⟨w.heap.size, 4, none⟩ = some (.bool f) ∧ w'.cell? ⟨w.heap.size, 5, none⟩ = some (.bool ll) ∧ w'.cell? ⟨w.heap.size, 6, none⟩ = some (.int .i64 i) ∧ w'.cell? ⟨w.heap.size, 7, none⟩ = some (.int .i64 k)) (with_reducible assumption) (first
    | (refine R_append_winsS (w0 := w) (W := w4.drew) w.heap.size (by rfl) (.const (.slice none 0 0)) (.tmp 45) 25 (by rfl) Tryz.underlying25 info23 _ [] l A l.length c (by rfl) (by rfl) (Kd.R_nil _ _ _ _ _) (C_move HC.out (D1.bel HD6.out)) (D1.bel HD6.out) (D1.bel HD6.out).size ?hl ?_; (case hl => have := HK.out.2; simp; omega); intro A7 c7 w7 hR7 hB7 hg7; rw [List.nil_append] at hR7 ⊢; have HR7 := Lib.hid (Kd.R_reads' hR7).2; have HD7 := Lib.hid (D1.step HD6.out (below_none hg7)); have HCW7 := Lib.hid (Kd.C_below HCW6.out (below_none hg7)); have K7 := D1.c8 HD7.out; clear hR7 hB7 hg7)
    | (go_at_call 22; go_loud ((with_reducible refine (HH.out A7 c7 w7 HR7.out.2 HR7.out.1).mono ?_); rintro e_ w8 ⟨rfl, hb⟩; have HD8 := Lib.hid (D1.step HD7.out hb); have HCW8 := Lib.hid (Kd.C_below HCW7.out hb); have K8 := D1.c8 HD8.out; clear hb)))
  all_goals
    clear K6 K7
    refine (by assumption : ∀ (a : Act) (w : World), Code.wp _ _ _ a w → _) _ _ ?_
    go_wp2_with (go_at_call 23; go_loud ((with_reducible refine (HB.out w8 (HE.out.below (D1.bel HD8.out)) (D1.bel HD8.out).size).mono ?_); rintro e_ w9 ⟨A9, c9, rfl, hC9, hc9, hb⟩; have HD9 := Lib.hid (D1.step HD8.out hb); have HCW9 := Lib.hid (Kd.C_below HCW8.out hb); have HC9 := Lib.hid (And.intro hC9 hc9); clear hb hC9 hc9))
    clear K8
    have HA9 := Lib.hid (show Below w9.heap.size w9 (w9.alloc (.cells #[.int .i64 (t : Nat), .bool f, .bool ll, .int .i64 i', .int .i64 k'] 42)).drew from below_drew (below_alloc (Below.refl _ _) _))
    have HD10 := Lib.hid (show D1 w (hdV true A l.length c tm t f ll i k) 44 (w9.alloc (.cells #[.int .i64 (t : Nat), .bool f, .bool ll, .int .i64 i', .int .i64 k'] 42)).drew from D1.step HD9.out HA9.out)
    have HP10 := Lib.hid (show D1 w9 #[.int .i64 (t : Nat), .bool f, .bool ll, .int .i64 i', .int .i64 k'] 42 (w9.alloc (.cells #[.int .i64 (t : Nat), .bool f, .bool ll, .int .i64 i', .int .i64 k'] 42)).drew from ⟨heap_alloc_new w9 _, HA9.out⟩)
    have HCW10 := Lib.hid (Kd.C_below HCW9.out HA9.out)
    have HC10 := Lib.hid (C_move HC9.out.1 HA9.out)
    have K10 := D1.c13 HD10.out HP10.out
    go_region_held3 (fun w' => w'.cell? ⟨w.heap.size, 0, none⟩ = some (.bool true) ∧ w'.cell? ⟨w.heap.size, 1, none⟩ = some (.slice A l.length c) ∧ w'.cell? ⟨w.heap.size, 2, none⟩ = some (.int .i64 tm) ∧ w'.cell? ⟨w.heap.size, 3, none⟩ = some (.int .i64 (t : Nat)) ∧ w'.cell? ⟨w.heap.size, 4, none⟩ = some (.bool f) ∧ w'.cell? ⟨w.heap.size, 5, none⟩ = some (.bool ll) ∧ w'.cell? ⟨w.heap.size, 6, none⟩ = some (.int .i64 i) ∧ w'.cell? ⟨w.heap.size, 7, none⟩ = some (.int .i64 k) ∧ w'.cell? ⟨w9.heap.size, 0, none⟩ = some (.int .i64 (t : Nat)) ∧ w'.cell? ⟨w9.heap.size, 1, none⟩ = some (.bool f) ∧ w'.cell? ⟨w9.heap.size, 2, none⟩ = some (.bool ll) ∧ w'.cell? ⟨w9.heap.size, 3, none⟩ = some (.int .i64 i') ∧ w'.cell? ⟨w9.heap.size, 4, none⟩ = some (.int .i64 k')) (with_reducible assumption) (first
      | (go_at_call 11; go_loud ((with_reducible refine (awake_any w.heap.size pe pl (w9.alloc (.cells #[.int .i64 (t : Nat), .bool f, .bool ll, .int .i64 i', .int .i64 k'] 42)).drew (HE.out.below (D1.bel HD10.out)) (D1.bel HD10.out).size).mono ?_); rintro e_ w11 ⟨rfl, hb⟩; have HD11 := Lib.hid (D1.step HD10.out hb); have HP11 := Lib.hid (D1.step HP10.out hb); have HCW11 := Lib.hid (Kd.C_below HCW10.out hb); have HC11 := Lib.hid (C_move HC10.out hb); have K11 := D1.c13 HD11.out HP11.out; clear hb))
      | (go_at_call 24; ((with_reducible refine (HCA.out w11).mono ?_); rintro e_ w12 ⟨rfl, hb⟩; have HD12 := Lib.hid (D1.step HD11.out hb); have HP12 := Lib.hid (D1.step HP11.out hb); have HCW12 := Lib.hid (Kd.C_below HCW11.out hb); have HC12 := Lib.hid (C_move HC11.out hb); have K12 := D1.c13 HD12.out HP12.out; clear hb))
      | (go_at_call 24; ((with_reducible refine (HCB.out w12).mono ?_); rintro e_ w13 ⟨rfl, hb⟩; have HD13 := Lib.hid (D1.step HD12.out hb); have HP13 := Lib.hid (D1.step HP12.out hb); have HCW13 := Lib.hid (Kd.C_below HCW12.out hb); have HC13 := Lib.hid (C_move HC12.out hb); have K13 := D1.c13 HD13.out HP13.out; clear hb))
      | (go_at_call 25; go_loud ((with_reducible refine (HPB.out w13).mono ?_); rintro e_ w14 ⟨rfl, hb⟩; have HD14 := Lib.hid (D1.step HD13.out hb); have HP14 := Lib.hid (D1.step HP13.out hb); have HCW14 := Lib.hid (Kd.C_below HCW13.out hb); have HC14 := Lib.hid (C_move HC13.out hb); have K14 := D1.c13 HD14.out HP14.out; clear hb))
      | (go_at_call 15; go_loud ((with_reducible refine (HSW.out A9 c9 w14 HC14.out HC9.out.2).mono ?_); rintro e_ w15 ⟨v, rfl, hR, hb⟩; obtain ⟨A15, c15, e15⟩ := Kd.R_slice hR; subst e15; (try rw [List.length_map]); have HR15 := Lib.hid (show Kd.C k32 w15 A15 l.length (l.map toS) from by have := (Kd.R_reads' hR).2.2; first | (rw [List.length_map] at this; exact this) | exact this); have HD15 := Lib.hid (D1.step HD14.out hb); have HP15 := Lib.hid (D1.step HP14.out hb); have HCW15 := Lib.hid (Kd.C_below HCW14.out hb); have K15 := D1.c13 HD15.out HP15.out; clear hb hR))
      | (go_at_call 18; go_loud ((with_reducible refine (HSM.out A15 c15 A6 c6 w15 HR15.out HCW15.out).mono ?_); rintro e_ w16 ⟨rfl, q, hq⟩; have HD16 := Lib.hid (show D1 w (hdV true A l.length c tm t f ll i k) 44 w16 by rw [hq]; exact D1.drewN HD15.out q); have HP16 := Lib.hid (show D1 w9 #[.int .i64 (t : Nat), .bool f, .bool ll, .int .i64 i', .int .i64 k'] 42 w16 by rw [hq]; exact D1.drewN HP15.out q); have K16 := D1.c13 HD16.out HP16.out; clear hq)))
    all_goals
      clear K10 K11 K12 K13 K14 K15 K16
      refine (by assumption : ∀ (a : Act) (w : World), Code.wp _ _ _ a w → _) _ _ ?_
      go_wp2
      go_ret
      exact ⟨rfl, D1.bel HD16.out⟩
set_option maxHeartbeats 8000000 in
set_option maxRecDepth 100000 in
theorem headBack_false (pe pl : Addr) (A : Option Addr) (c : Nat) (l : List S23) (tm : Int) (t : Nat) (f ll : Bool) (i k : Int) (rest : ByteArray) (w : World) (he : Env w.heap.size pe pl w) (hC : Kd.C k23 w A l.length l) (hc : l.length ≤ c) (hh : headOk l tm t i k) (hi : -9223372036854775808 ≤ i ∧ i ≤ 9223372036854775807) (hk : -9223372036854775808 ≤ k ∧ k ≤ 9223372036854775807) (hrest : rest.size ≤ 50)
    (hw : ∀ W, Kd.C k23 W A l.length l → Calls Tryz.prog 20 #[.agg (hdV false A l.length c tm t f ll i k)] W fun e w' => e = .returned (.bool true) ∧ Below W.heap.size W w') :
    Calls Tryz.prog 5 #[.agg (hdV false A l.length c tm t f ll i k), .string rest] w fun x w' => x = .returned (.bool true) ∧ Below w.heap.size w w' := by
  obtain ⟨hl, hok, htm, hpo⟩ := hh
  have HE := Lib.hid he
  have HC := Lib.hid hC
  have HK := Lib.hid (And.intro hc hl)
  have ht : t < 4 := by have := hpo.2.1; omega
  have hp : t = 0 → k = -1 ∨ (i = 0 ∧ k = 0) := fun e => hpo.2.2 (by rw [e]; rfl)
  have hr1 : (rest.size : Int) ≤ 50 := by omega
  have hl1 : (l.length : Int) ≤ 20 := by omega
  have HF := Lib.hid (fun W => by have := fits3_any false A l.length c tm t f ll i k W; rw [decide_eq_true (show l.length ≤ 2147483647 by omega)] at this; exact this)
  have HW := Lib.hid hw
  obtain ⟨S1, hS1⟩ : ∃ S1 : ByteArray, S1 = ⟨(hdB false l tm t f ll i k).toArray⟩ := ⟨_, rfl⟩
  have hl2 : S1.data.toList = hdB false l tm t f ll i k := by rw [hS1]
  have hz : S1.size = (hdB false l tm t f ll i k).length := by rw [← hl2, Array.length_toList]; rfl
  have hz2 : S1.size ≤ 400 := by rw [hz, hdB_len]; have := wsB_len false l hl; have := pbytes_len t f ll i k; omega
  have HH := Lib.hid (fun (A' : Option Addr) (c' : Nat) (W : World) (h1 : Kd.C k23 W A' l.length l) (h2 : l.length ≤ c') => encHd_any false l hok hl A' c' tm (by omega) t ht f ll i k hp W h1 h2)
  rw [← hS1, show kOf false = 0 from rfl] at HH
  obtain ⟨TT, hTT⟩ : ∃ TT, TT = S1 ++ rest := ⟨_, rfl⟩
  have hlT : TT.data.toList = hdB false l tm t f ll i k ++ rest.data.toList := by rw [hTT, ByteArray.data_append, Array.toList_append, hl2]
  have hadd := add_strZ S1 rest (by omega) (by omega)
  rw [← hTT] at hadd
  have hzT : TT.size ≤ 1000 := by rw [hTT, ByteArray.size_append]; omega
  have HB := Lib.hid (fun (W : World) (h1 : Env w.heap.size pe pl W) (h2 : w.heap.size ≤ W.heap.size) => headOf_back w.heap.size pe pl false l hok hl tm (by omega) t ht f ll i k hi hk hp TT (by omega) rest.data.toList hlT S1.size hz W h1 h2)
  rw [show kOf false = 0 from rfl, show wantL false l = [gSp] from rfl] at HB
  have HPB := Lib.hid (fun W => paneBack_any t f ll i k W)
  obtain ⟨i', hi'⟩ : ∃ i', i' = (if t = 3 then (0 : Int) else i) := ⟨_, rfl⟩
  obtain ⟨k', hk'⟩ : ∃ k', k' = (if t = 3 then (0 : Int) else k) := ⟨_, rfl⟩
  rw [← hi', ← hk'] at HB HPB
  have HCA := Lib.hid (fun W => codPaneZ t f ll i' k' W)
  have HCB := Lib.hid (fun W => codPaneZ t f ll i k W)
  have HSO := Lib.hid (fun (W : World) (h : Kd.C k23 W A l.length l) => laws_codSpanOf.calls (l.length + 1) A c l _ W h hc (spanOf_f l (by omega)))
  have HSW := Lib.hid (fun (A' : Option Addr) (c' : Nat) (W : World) (h : Kd.C k23 W A' [gSp].length [gSp]) (h2 : [gSp].length ≤ c') => laws_codSpanOf.calls ([gSp].length + 1) A' c' [gSp] _ W h h2 (spanOf_f [gSp] (by first | omega | (show 1 ≤ 100000; decide))))
  have HSM := Lib.hid (fun (A0 : Option Addr) (c0 : Nat) (A1 : Option Addr) (c1 : Nat) (W : World) (h1 : Kd.C k32 W A0 [gSp].length ([gSp].map toS)) (h2 : Kd.C k32 W A1 [gSp].length ([gSp].map toS)) => same_eq A0 c0 A1 c1 [gSp] W h1 h2)
  rw [show [gSp].length = 1 from rfl] at HB HSW HSM
  have HD := Lib.hid (show D1 w (hdV false A l.length c tm t f ll i k) 44 (w.alloc (.cells (hdV false A l.length c tm t f ll i k) 44)) from ⟨heap_alloc_new w _, below_alloc (Below.refl w.heap.size w) _⟩)
  have HR := Lib.hid (fun W => kind_any false W)
  rw [show kOf false = 0 from rfl] at HR
  clear he hC hc hl hok htm hpo hw ht hp hS1 hl2 hz hz2 hTT hlT hzT hi' hk' hi hk hrest
  go_enter Tryz.func5, Tryz.ntmps5
  go_wp2_with (first
    | (go_at_call 19; go_loud ((with_reducible refine (HF.out _).mono ?_); rintro e_ w1 ⟨rfl, hb⟩; have HD1 := Lib.hid (HD.out.step hb); have K1 := HD1.out.cells8; clear hb))
    | (go_at_call 20; go_loud ((with_reducible refine (HW.out w1 (C_move HC.out (D1.bel HD1.out))).mono ?_); rintro e_ w2 ⟨rfl, hb⟩; have HD2 := Lib.hid (HD1.out.step hb); clear K1; have K2 := HD2.out.cells8; clear hb))
    | (go_at_call 21; go_loud (refine (HR.out _).mono ?_; rintro e_ w3 ⟨rfl, rfl⟩))
    | (go_at_call 15; go_loud ((with_reducible refine (HSO.out w2 (C_move HC.out (D1.bel HD2.out))).mono ?_); rintro e_ w4 ⟨v, rfl, hR6, hb⟩; obtain ⟨A6, c6, e6⟩ := Kd.R_slice hR6; subst e6; (try rw [List.length_map]); have HD4 := Lib.hid (D1.step HD2.out hb); have K4 := D1.c8 HD4.out; have HD5 := Lib.hid (D1.step HD4.out (show Below w4.heap.size w4 (w4.alloc (.cells #[.bool true, .int .i64 0, .int .i64 0] 32)) from below_alloc (Below.refl _ _) _)); have HCW := Lib.hid (show Kd.C k32 (w4.alloc (.cells #[.bool true, .int .i64 0, .int .i64 0] 32)) (some ⟨w4.heap.size, 0, none⟩) 1 ([gSp].map toS) from C_one32 true 0 0 (heap_alloc_new w4 (.cells #[.bool true, .int .i64 0, .int .i64 0] 32))); clear K2; clear hb hR6)))
  have HD6 := Lib.hid (show D1 w (hdV false A l.length c tm t f ll i k) 44 (w4.alloc (.cells #[.bool true, .int .i64 0, .int .i64 0] 32)).drew from D1.drewN HD5.out 1)
  have K6 := D1.c8 HD6.out
  have HCW6 := Lib.hid (show Kd.C k32 (w4.alloc (.cells #[.bool true, .int .i64 0, .int .i64 0] 32)).drew (some ⟨w4.heap.size, 0, none⟩) 1 ([gSp].map toS) from Kd.C_below HCW.out (below_drewN (Below.refl _ _) 1))
  clear K4
  go_region_held3 (fun w' => w'.cell? ⟨w.heap.size, 0, none⟩ = some (.bool false) ∧ w'.cell? ⟨w.heap.size, 1, none⟩ = some (.slice A l.length c) ∧ w'.cell? ⟨w.heap.size, 2, none⟩ = some (.int .i64 tm) ∧ w'.cell? ⟨w.heap.size, 3, none⟩ = some (.int .i64 (t : Nat)) ∧ w'.cell? ⟨w.heap.size, 4, none⟩ = some (.bool f) ∧ w'.cell? ⟨w.heap.size, 5, none⟩ = some (.bool ll) ∧ w'.cell? ⟨w.heap.size, 6, none⟩ = some (.int .i64 i) ∧ w'.cell? ⟨w.heap.size, 7, none⟩ = some (.int .i64 k)) (with_reducible assumption) (first
    | (refine R_append_winsS (w0 := w) (W := (w4.alloc (.cells #[.bool true, .int .i64 0, .int .i64 0] 32)).drew) w.heap.size (by rfl) (.const (.slice none 0 0)) (.tmp 45) 25 (by rfl) Tryz.underlying25 info23 _ [] l A l.length c (by rfl) (by rfl) (Kd.R_nil _ _ _ _ _) (C_move HC.out (D1.bel HD6.out)) (D1.bel HD6.out) (D1.bel HD6.out).size ?hl ?_; (case hl => have := HK.out.2; simp; omega); intro A7 c7 w7 hR7 hB7 hg7; rw [List.nil_append] at hR7 ⊢; have HR7 := Lib.hid (Kd.R_reads' hR7).2; have HD7 := Lib.hid (D1.step HD6.out (below_none hg7)); have HCW7 := Lib.hid (Kd.C_below HCW6.out (below_none hg7)); have K7 := D1.c8 HD7.out; clear hR7 hB7 hg7)
    | (go_at_call 22; go_loud ((with_reducible refine (HH.out A7 c7 w7 HR7.out.2 HR7.out.1).mono ?_); rintro e_ w8 ⟨rfl, hb⟩; have HD8 := Lib.hid (D1.step HD7.out hb); have HCW8 := Lib.hid (Kd.C_below HCW7.out hb); have K8 := D1.c8 HD8.out; clear hb)))
  all_goals
    clear K6 K7
    refine (by assumption : ∀ (a : Act) (w : World), Code.wp _ _ _ a w → _) _ _ ?_
    go_wp2_with (go_at_call 23; go_loud ((with_reducible refine (HB.out w8 (HE.out.below (D1.bel HD8.out)) (D1.bel HD8.out).size).mono ?_); rintro e_ w9 ⟨A9, c9, rfl, hC9, hc9, hb⟩; have HD9 := Lib.hid (D1.step HD8.out hb); have HCW9 := Lib.hid (Kd.C_below HCW8.out hb); have HC9 := Lib.hid (And.intro hC9 hc9); clear hb hC9 hc9))
    clear K8
    have HA9 := Lib.hid (show Below w9.heap.size w9 (w9.alloc (.cells #[.int .i64 (t : Nat), .bool f, .bool ll, .int .i64 i', .int .i64 k'] 42)).drew from below_drew (below_alloc (Below.refl _ _) _))
    have HD10 := Lib.hid (show D1 w (hdV false A l.length c tm t f ll i k) 44 (w9.alloc (.cells #[.int .i64 (t : Nat), .bool f, .bool ll, .int .i64 i', .int .i64 k'] 42)).drew from D1.step HD9.out HA9.out)
    have HP10 := Lib.hid (show D1 w9 #[.int .i64 (t : Nat), .bool f, .bool ll, .int .i64 i', .int .i64 k'] 42 (w9.alloc (.cells #[.int .i64 (t : Nat), .bool f, .bool ll, .int .i64 i', .int .i64 k'] 42)).drew from ⟨heap_alloc_new w9 _, HA9.out⟩)
    have HCW10 := Lib.hid (Kd.C_below HCW9.out HA9.out)
    have HC10 := Lib.hid (C_move HC9.out.1 HA9.out)
    have K10 := D1.c13 HD10.out HP10.out
    go_region_held3 (fun w' => w'.cell? ⟨w.heap.size, 0, none⟩ = some (.bool false) ∧ w'.cell? ⟨w.heap.size, 1, none⟩ = some (.slice A l.length c) ∧ w'.cell? ⟨w.heap.size, 2, none⟩ = some (.int .i64 tm) ∧ w'.cell? ⟨w.heap.size, 3, none⟩ = some (.int .i64 (t : Nat)) ∧ w'.cell? ⟨w.heap.size, 4, none⟩ = some (.bool f) ∧ w'.cell? ⟨w.heap.size, 5, none⟩ = some (.bool ll) ∧ w'.cell? ⟨w.heap.size, 6, none⟩ = some (.int .i64 i) ∧ w'.cell? ⟨w.heap.size, 7, none⟩ = some (.int .i64 k) ∧ w'.cell? ⟨w9.heap.size, 0, none⟩ = some (.int .i64 (t : Nat)) ∧ w'.cell? ⟨w9.heap.size, 1, none⟩ = some (.bool f) ∧ w'.cell? ⟨w9.heap.size, 2, none⟩ = some (.bool ll) ∧ w'.cell? ⟨w9.heap.size, 3, none⟩ = some (.int .i64 i') ∧ w'.cell? ⟨w9.heap.size, 4, none⟩ = some (.int .i64 k')) (with_reducible assumption) (first
      | (go_at_call 11; go_loud ((with_reducible refine (awake_any w.heap.size pe pl (w9.alloc (.cells #[.int .i64 (t : Nat), .bool f, .bool ll, .int .i64 i', .int .i64 k'] 42)).drew (HE.out.below (D1.bel HD10.out)) (D1.bel HD10.out).size).mono ?_); rintro e_ w11 ⟨rfl, hb⟩; have HD11 := Lib.hid (D1.step HD10.out hb); have HP11 := Lib.hid (D1.step HP10.out hb); have HCW11 := Lib.hid (Kd.C_below HCW10.out hb); have HC11 := Lib.hid (C_move HC10.out hb); have K11 := D1.c13 HD11.out HP11.out; clear hb))
      | (go_at_call 24; ((with_reducible refine (HCA.out w11).mono ?_); rintro e_ w12 ⟨rfl, hb⟩; have HD12 := Lib.hid (D1.step HD11.out hb); have HP12 := Lib.hid (D1.step HP11.out hb); have HCW12 := Lib.hid (Kd.C_below HCW11.out hb); have HC12 := Lib.hid (C_move HC11.out hb); have K12 := D1.c13 HD12.out HP12.out; clear hb))
      | (go_at_call 24; ((with_reducible refine (HCB.out w12).mono ?_); rintro e_ w13 ⟨rfl, hb⟩; have HD13 := Lib.hid (D1.step HD12.out hb); have HP13 := Lib.hid (D1.step HP12.out hb); have HCW13 := Lib.hid (Kd.C_below HCW12.out hb); have HC13 := Lib.hid (C_move HC12.out hb); have K13 := D1.c13 HD13.out HP13.out; clear hb))
      | (go_at_call 25; go_loud ((with_reducible refine (HPB.out w13).mono ?_); rintro e_ w14 ⟨rfl, hb⟩; have HD14 := Lib.hid (D1.step HD13.out hb); have HP14 := Lib.hid (D1.step HP13.out hb); have HCW14 := Lib.hid (Kd.C_below HCW13.out hb); have HC14 := Lib.hid (C_move HC13.out hb); have K14 := D1.c13 HD14.out HP14.out; clear hb))
      | (go_at_call 15; go_loud ((with_reducible refine (HSW.out A9 c9 w14 HC14.out HC9.out.2).mono ?_); rintro e_ w15 ⟨v, rfl, hR, hb⟩; obtain ⟨A15, c15, e15⟩ := Kd.R_slice hR; subst e15; (try rw [List.length_map]); have HR15 := Lib.hid (show Kd.C k32 w15 A15 1 ([gSp].map toS) from by have := (Kd.R_reads' hR).2.2; first | (rw [List.length_map] at this; exact this) | exact this); have HD15 := Lib.hid (D1.step HD14.out hb); have HP15 := Lib.hid (D1.step HP14.out hb); have HCW15 := Lib.hid (Kd.C_below HCW14.out hb); have K15 := D1.c13 HD15.out HP15.out; clear hb hR))
      | (go_at_call 18; go_loud ((with_reducible refine (HSM.out A15 c15 (some ⟨w4.heap.size, 0, none⟩) 1 w15 HR15.out HCW15.out).mono ?_); rintro e_ w16 ⟨rfl, q, hq⟩; have HD16 := Lib.hid (show D1 w (hdV false A l.length c tm t f ll i k) 44 w16 by rw [hq]; exact D1.drewN HD15.out q); have HP16 := Lib.hid (show D1 w9 #[.int .i64 (t : Nat), .bool f, .bool ll, .int .i64 i', .int .i64 k'] 42 w16 by rw [hq]; exact D1.drewN HP15.out q); have K16 := D1.c13 HD16.out HP16.out; clear hq)))
    all_goals
      clear K10 K11 K12 K13 K14 K15 K16
      refine (by assumption : ∀ (a : Act) (w : World), Code.wp _ _ _ a w → _) _ _ ?_
      go_wp2
      go_ret
      exact ⟨rfl, D1.bel HD16.out⟩
end Go.Proofs.YtgdbeiadlgkedaaGreatDoor
set_option linter.unusedVariables false
set_option linter.unusedSimpArgs false
namespace Go.Proofs.YtgdbeiadlgkedaaGreatDoor
open Go.RowKit PFnWindowOne Go.Proofs.YtgdbeiadlgkedaaGreatDoorW.PrintWords
theorem hback_long (b : Bool) (A : Option Addr) (n c : Nat) (tm t : Int) (f ll : Bool) (i k : Int) (rest : ByteArray) (w : World) (h : 2147483647 < n ∨ 2147483647 < rest.size) :
    Calls Tryz.prog 5 #[.agg (hdV b A n c tm t f ll i k), .string rest] w fun x w' => x = .returned (.bool true) ∧ Below w.heap.size w w' := by
  have HD := Lib.hid (show D1 w (hdV b A n c tm t f ll i k) 44 (w.alloc (.cells (hdV b A n c tm t f ll i k) 44)) from ⟨heap_alloc_new w _, below_alloc (Below.refl w.heap.size w) _⟩)
  by_cases h1 : 2147483647 < n
  · have HF := Lib.hid (fun W => by have := fits3_any b A n c tm t f ll i k W; rw [decide_eq_false (show ¬ n ≤ 2147483647 by omega)] at this; exact this)
    clear h h1
    go_enter Tryz.func5, Tryz.ntmps5
    go_wp2_with (go_at_call 19; go_loud ((with_reducible refine (HF.out _).mono ?_); rintro e_ w1 ⟨rfl, hb⟩; have HD1 := Lib.hid (HD.out.step hb); clear hb))
    all_goals
      go_ret
      exact ⟨rfl, D1.bel HD1.out⟩
  · have HF := Lib.hid (fun W => by have := fits3_any b A n c tm t f ll i k W; rw [decide_eq_true (show n ≤ 2147483647 by omega)] at this; exact this)
    have h2 : 2147483647 < (rest.size : Int) := by rcases h with h | h; exact absurd h h1; omega
    clear h h1
    go_enter Tryz.func5, Tryz.ntmps5
    go_wp2_with (go_at_call 19; go_loud ((with_reducible refine (HF.out _).mono ?_); rintro e_ w1 ⟨rfl, hb⟩; have HD1 := Lib.hid (HD.out.step hb); clear hb))
    all_goals
      go_ret
      exact ⟨rfl, D1.bel HD1.out⟩
theorem hback_not (pe pl : Addr) (b : Bool) (A : Option Addr) (c : Nat) (l : List S23) (tm t : Int) (f ll : Bool) (i k : Int) (rest : ByteArray) (w : World) (he : Env w.heap.size pe pl w) (hC : Kd.C k23 w A l.length l) (h : ¬ 2147483647 < l.length) (h2 : ¬ 2147483647 < rest.size) (y : Bool) (hy : y = false ∨ 50 < rest.size)
    (hw : ∀ W, Kd.C k23 W A l.length l → Calls Tryz.prog 20 #[.agg (hdV b A l.length c tm t f ll i k)] W fun e w' => e = .returned (.bool y) ∧ Below W.heap.size W w') :
    Calls Tryz.prog 5 #[.agg (hdV b A l.length c tm t f ll i k), .string rest] w fun x w' => x = .returned (.bool true) ∧ Below w.heap.size w w' := by
  have HE := Lib.hid he
  have HC := Lib.hid hC
  have HF := Lib.hid (fun W => by have := fits3_any b A l.length c tm t f ll i k W; rw [decide_eq_true (show l.length ≤ 2147483647 by omega)] at this; exact this)
  have HD := Lib.hid (show D1 w (hdV b A l.length c tm t f ll i k) 44 (w.alloc (.cells (hdV b A l.length c tm t f ll i k) 44)) from ⟨heap_alloc_new w _, below_alloc (Below.refl w.heap.size w) _⟩)
  have HW := Lib.hid hw
  have g2 : ¬ 2147483647 < (rest.size : Int) := by omega
  cases y with
  | false =>
    clear h h2 he hC hw hy
    go_enter Tryz.func5, Tryz.ntmps5
    go_wp2_with (first
      | (go_at_call 19; go_loud ((with_reducible refine (HF.out _).mono ?_); rintro e_ w1 ⟨rfl, hb⟩; have HD1 := Lib.hid (HD.out.step hb); have K1 := HD1.out.cells8; clear hb))
      | (go_at_call 20; go_loud ((with_reducible refine (HW.out w1 (C_move HC.out (D1.bel HD1.out))).mono ?_); rintro e_ w2 ⟨rfl, hb⟩; have HD2 := Lib.hid (HD1.out.step hb); clear K1; clear hb))
      | (go_at_call 11; go_loud ((with_reducible refine (awake_any w.heap.size pe pl w2 (HE.out.below (D1.bel HD2.out)) (D1.bel HD2.out).size).mono ?_); rintro e_ w3 ⟨rfl, hb⟩; have HD3 := Lib.hid (HD2.out.step hb); clear hb)))
    all_goals
      go_ret
      exact ⟨rfl, D1.bel HD3.out⟩
  | true =>
    have g3 : 50 < (rest.size : Int) := by rcases hy with h | h; cases h; omega
    clear h h2 he hC hw hy
    go_enter Tryz.func5, Tryz.ntmps5
    go_wp2_with (first
      | (go_at_call 19; go_loud ((with_reducible refine (HF.out _).mono ?_); rintro e_ w1 ⟨rfl, hb⟩; have HD1 := Lib.hid (HD.out.step hb); have K1 := HD1.out.cells8; clear hb))
      | (go_at_call 20; go_loud ((with_reducible refine (HW.out w1 (C_move HC.out (D1.bel HD1.out))).mono ?_); rintro e_ w2 ⟨rfl, hb⟩; have HD2 := Lib.hid (HD1.out.step hb); clear K1; clear hb))
      | (go_at_call 11; go_loud ((with_reducible refine (awake_any w.heap.size pe pl w2 (HE.out.below (D1.bel HD2.out)) (D1.bel HD2.out).size).mono ?_); rintro e_ w3 ⟨rfl, hb⟩; have HD3 := Lib.hid (HD2.out.step hb); clear hb)))
    all_goals
      go_ret
      exact ⟨rfl, D1.bel HD3.out⟩
theorem hback_row (pe pl : Addr) (b : Bool) (A : Option Addr) (c : Nat) (l : List S23) (tm t : Int) (f ll : Bool) (i k : Int) (rest : ByteArray) (w : World) (he : Env w.heap.size pe pl w) (hC : Kd.C k23 w A l.length l) (hc : l.length ≤ c) (hi : (Lit.int .i64 i).wf = true) (hk : (Lit.int .i64 k).wf = true) :
    Calls Tryz.prog 5 #[.agg (hdV b A l.length c tm t f ll i k), .string rest] w fun x w' => x = .returned (.bool true) ∧ Below w.heap.size w w' := by
  by_cases h : 2147483647 < l.length
  · exact hback_long b A l.length c tm t f ll i k rest w (.inl h)
  by_cases h2 : 2147483647 < rest.size
  · exact hback_long b A l.length c tm t f ll i k rest w (.inr h2)
  obtain ⟨y, hy, hw⟩ := headFew_any b A c l hc tm t f ll i k
  by_cases hb : y = true ∧ ¬ 50 < rest.size
  · obtain ⟨rfl, hr⟩ := hb
    have hh := hy rfl
    have h0 := hh.2.2.2.1
    have hmin : IntKind.i64.min = -9223372036854775808 := rfl
    have hmax : IntKind.i64.max = 9223372036854775807 := rfl
    simp only [Lit.wf, Bool.and_eq_true, decide_eq_true_eq] at hi hk
    obtain ⟨t', rfl⟩ : ∃ t' : Nat, t = (t' : Int) := ⟨t.toNat, by omega⟩
    cases b
    · exact headBack_false pe pl A c l tm t' f ll i k rest w he hC hc hh (by omega) (by omega) (by omega) hw
    · exact headBack_true pe pl A c l tm t' f ll i k rest w he hC hc hh (by omega) (by omega) (by omega) hw
  · refine hback_not pe pl b A c l tm t f ll i k rest w he hC h h2 y ?_ hw
    cases y with
    | false => exact .inl rfl
    | true => right; by_cases h : 50 < rest.size; exact h; exact absurd ⟨rfl, h⟩ hb
end Go.Proofs.YtgdbeiadlgkedaaGreatDoor
set_option linter.unusedVariables false
set_option linter.unusedSimpArgs false
namespace Go.Proofs.YtgdbeiadlgkedaaGreatDoor
open Go.RowKit Go.Deep PFnWindowOne Go.Proofs.YtgdbeiadlgkedaaGreatDoorW.PrintWords
theorem choose_list {α : Type} {n : Nat} {p : Nat → α → Prop} (h : ∀ i, i < n → ∃ x, p i x) : ∃ xs : List α, xs.length = n ∧ ∀ i x, xs[i]? = some x → p i x := by
  induction n with
  | zero => exact ⟨[], rfl, by simp⟩
  | succ n ih =>
    obtain ⟨xs, hl, hx⟩ := ih (fun i hi => h i (by omega))
    obtain ⟨y, hy⟩ := h n (by omega)
    refine ⟨xs ++ [y], by simp [hl], fun i x hi => ?_⟩
    by_cases hlt : i < xs.length
    · rw [List.getElem?_append_left hlt] at hi; exact hx i x hi
    · rw [List.getElem?_append_right (by omega)] at hi
      have e : i = n := by
        have := (List.getElem?_eq_some_iff.1 hi).1
        simp at this; omega
      subst e
      simp [hl] at hi
      exact hi ▸ hy
theorem open_kd {α H : Type} {enc : TypeId × Value → H} {P : Program} {W : World} {sp : Nat → Bool} {held : Bool} (d : Kd α) {Good : α → Prop} {t e : TypeId} (ht : P.underlying t = some (.slice e)) (hce : P.cellsOf e = d.sz)
    (hel : ∀ n cs x, cs.length = d.sz → DataW.trod enc P W 0 sp held n e cs = some x → ∃ a : α, d.K W a cs ∧ Good a)
    {A0 : Option Addr} {n0 c0 : Nat} {ds : DataW H} {ps : List MemPlace} (h : DataW.Trod enc P W 0 sp held t (.slice A0 n0 c0) ds ps) :
    ∃ xs : List α, n0 = xs.length ∧ xs.length ≤ c0 ∧ d.C W A0 xs.length xs ∧ ∀ x ∈ xs, Good x := by
  obtain ⟨fuel, hf⟩ := h
  rcases open_slice ht hf with ⟨hcs, _⟩ | ⟨a, len, cap, m, n, D, Pl, hcs, hb, hl, hm, hmm, hx, hall⟩
  · simp [Value.cells] at hcs
    obtain ⟨rfl, rfl, rfl⟩ := hcs
    exact ⟨[], rfl, Nat.le_refl _, Kd.C_nil d W, by simp⟩
  · simp [Value.cells] at hcs
    obtain ⟨rfl, rfl, rfl⟩ := hcs
    have hlm : n0 ≤ m := by rw [hmm]; split <;> omega
    have each : ∀ i, i < n0 → ∃ x : α, Good x ∧ ∃ c, c.length = d.sz ∧ d.K W x c ∧ ∀ j u, c[j]? = some u → W.cell? (a.add (i * d.sz + j)) = some u := by
      intro i hi
      obtain ⟨cs', h1, h2⟩ := hall i (by omega)
      rw [hce] at h1
      obtain ⟨_, hlen, hcell⟩ := World.cells?_some h1
      obtain ⟨x, hK, hG⟩ := hel _ _ _ hlen h2
      refine ⟨x, hG, cs', hlen, hK, fun j u hu => ?_⟩
      have hj : j < d.sz := by rw [← hlen]; exact (List.getElem?_eq_some_iff.1 hu).1
      rw [← Deep.add_add, hcell j hj]; exact hu
    obtain ⟨xs, hxl, hxs⟩ := choose_list each
    refine ⟨xs, hxl.symm, by omega, ⟨rfl, ?_, fun _ => ⟨a, rfl, fun j p hj => (hxs j p hj).2⟩⟩, fun x hx => ?_⟩
    · have : maxLen ≤ 9223372036854775807 := by decide
      omega
    · obtain ⟨i, hi⟩ := List.getElem?_of_mem hx
      exact (hxs i x hi).1
theorem list3 {α : Type} {l : List α} (h : l.length = 3) : ∃ a b c, l = [a, b, c] := by
  match l, h with
  | [a, b, c], _ => exact ⟨a, b, c, rfl⟩
theorem open_sp {H : Type} {enc : TypeId × Value → H} {W : World} {sp : Nat → Bool} {held : Bool} {A0 : Option Addr} {n0 c0 : Nat} {ds : DataW H} {ps : List MemPlace} (h : DataW.Trod enc Tryz.prog W 0 sp held 25 (.slice A0 n0 c0) ds ps) :
    ∃ xs : List S23, n0 = xs.length ∧ xs.length ≤ c0 ∧ k23.C W A0 xs.length xs := by
  obtain ⟨xs, e, hc, hC, _⟩ := open_kd (Good := fun _ => True) k23 Tryz.underlying25 (by kernel_rfl) (fun n cs x hl hx => by
    obtain ⟨y0, y1, y2, k, hxy, _, u0, u1, u2⟩ := trod_struct3 Tryz.underlying23 hx
    have hl3 : cs.length = 3 := hl
    clear hl hx
    obtain ⟨v0, v1, v2, rfl⟩ := list3 hl3
    clear hl3
    · rw [show Tryz.prog.cellsOf 4 = 1 from by kernel_rfl] at u0
      rw [show Tryz.prog.cellsOf 2 = 1 from by kernel_rfl] at u1 u2
      simp only [List.drop, List.take] at u0 u1 u2
      obtain ⟨s, e0, d0⟩ := DataW.trod_bool Tryz.underlying4 u0
      obtain ⟨q, e1, d1, _⟩ := DataW.trod_int Tryz.underlying2 u1
      obtain ⟨p, e2, d2, _⟩ := DataW.trod_int Tryz.underlying2 u2
      simp only [List.cons.injEq, and_true] at e0 e1 e2
      subst e0; subst e1; subst e2
      exact ⟨⟨s, q, p⟩, Kd.K_of_M _ (k23_mkM W 0 (fun _ => True) ⟨s, q, p⟩), trivial⟩) h
  exact ⟨xs, e, hc, hC⟩
end Go.Proofs.YtgdbeiadlgkedaaGreatDoor
set_option linter.unusedVariables false
set_option linter.unusedSimpArgs false
namespace Go.Proofs.YtgdbeiadlgkedaaGreatDoor
open Go.Joins Go.ChangeShapes Go.WideShapes Go.RowKit Go.Deep PFnWindowOne
theorem read_head {H : Type} {enc : TypeId × Value → H} {W : World} {sp : Nat → Bool} {held : Bool} {fuel : Nat} {cs : List Value} {x : DataW H × List MemPlace} (hl : cs.length = 8) (hx : DataW.trod enc Tryz.prog W 0 sp held fuel 44 cs = some x) :
    ∃ (a0 : Bool) (A : Option Addr) (n c : Nat) (l : List S23) (a2 a3 : Int) (a4 a5 : Bool) (a6 a7 : Int), cs = [.bool a0, .slice A n c, .int .i64 a2, .int .i64 a3, .bool a4, .bool a5, .int .i64 a6, .int .i64 a7] ∧ n = l.length ∧ l.length ≤ c ∧ k23.C W A l.length l ∧ (Lit.int .i64 a2).wf = true ∧ (Lit.int .i64 a3).wf = true ∧ (Lit.int .i64 a6).wf = true ∧ (Lit.int .i64 a7).wf = true := by
  match cs, hl with
  | [c0, c1, c2, c3, c4, c5, c6, c7], _ =>
    obtain ⟨ys, n, _, rfl, _, hlen, hf⟩ := DataW.trod_struct Tryz.underlying44 hx
    have hlen' : ys.length = 4 := hlen
    match ys, hlen' with
    | [y0, y1, y2, y3], _ =>
      have g0 := hf 0 _ rfl
      have g1 := hf 1 _ rfl
      have g2 := hf 2 _ rfl
      have g3 := hf 3 _ rfl
      simp only [List.getElem_toArray, List.getElem_cons_zero, List.getElem_cons_succ, List.drop, List.take, List.getElem?_cons_zero, List.getElem?_cons_succ, show Tryz.prog.cellsOf 2 = 1 from by kernel_rfl, show Tryz.prog.cellsOf 4 = 1 from by kernel_rfl, show Tryz.prog.cellsOf 25 = 1 from by kernel_rfl, show Tryz.prog.cellsOf 42 = 5 from by kernel_rfl] at g0 g1 g2 g3
      obtain ⟨zs, n2, _, rfl, _, hlen2, hf2⟩ := DataW.trod_struct Tryz.underlying42 g3
      have hlen2' : zs.length = 5 := hlen2
      match zs, hlen2' with
      | [z0, z1, z2, z3, z4], _ =>
        have g30 := hf2 0 _ rfl
        have g4 := hf2 1 _ rfl
        have g5 := hf2 2 _ rfl
        have g6 := hf2 3 _ rfl
        have g7 := hf2 4 _ rfl
        simp only [List.getElem_toArray, List.getElem_cons_zero, List.getElem_cons_succ, List.drop, List.take, List.getElem?_cons_zero, List.getElem?_cons_succ, show Tryz.prog.cellsOf 2 = 1 from by kernel_rfl, show Tryz.prog.cellsOf 4 = 1 from by kernel_rfl, show Tryz.prog.cellsOf 25 = 1 from by kernel_rfl, show Tryz.prog.cellsOf 42 = 5 from by kernel_rfl] at g30 g4 g5 g6 g7
        obtain ⟨a0, e0, _⟩ := DataW.trod_bool Tryz.underlying4 g0
        obtain ⟨a2, e2, _, w2⟩ := DataW.trod_int Tryz.underlying2 g2
        obtain ⟨a3, e3, _, w3⟩ := DataW.trod_int Tryz.underlying2 g30
        obtain ⟨a4, e4, _⟩ := DataW.trod_bool Tryz.underlying4 g4
        obtain ⟨a5, e5, _⟩ := DataW.trod_bool Tryz.underlying4 g5
        obtain ⟨a6, e6, _, w6⟩ := DataW.trod_int Tryz.underlying2 g6
        obtain ⟨a7, e7, _, w7⟩ := DataW.trod_int Tryz.underlying2 g7
        obtain ⟨A, m, c, e1⟩ : ∃ (A : Option Addr) (m c : Nat), [c1] = [Value.slice A m c] := by
          rcases open_slice Tryz.underlying25 g1 with ⟨hcs, _⟩ | ⟨a, len, cap, m, n, D, Pl, hcs, _⟩
          · exact ⟨none, 0, 0, hcs⟩
          · exact ⟨some a, len, cap, hcs⟩
        simp only [List.cons.injEq, and_true] at e0 e1 e2 e3 e4 e5 e6 e7
        subst e0 e1 e2 e3 e4 e5 e6 e7
        obtain ⟨l, hn, hc, hC⟩ := open_sp (W := W) (A0 := A) (n0 := m) (c0 := c) (ds := y1.1) (ps := y1.2) ⟨n, g1⟩
        exact ⟨a0, A, m, c, l, a2, a3, a4, a5, a6, a7, rfl, hn, hc, hC, w2, w3, w6, w7⟩
set_option maxRecDepth 100000 in
theorem open_head {H : Type} {enc : TypeId × Value → H} {W : World} {spare : Nat → Bool} {held : Bool} {r : Reach} {b0 : Nat} {v : Value} {d : DataW H} {p : List MemPlace}
    (hv : Value.okWide Tryz.prog W r b0 44 v) (h : DataW.Trod enc Tryz.prog W 0 spare held 44 v d p) :
    ∃ (a0 : Bool) (A : Option Addr) (n c : Nat) (l : List S23) (a2 a3 : Int) (a4 a5 : Bool) (a6 a7 : Int), v = .agg (hdV a0 A n c a2 a3 a4 a5 a6 a7) ∧ n = l.length ∧ l.length ≤ c ∧ k23.C W A l.length l ∧ (Lit.int .i64 a2).wf = true ∧ (Lit.int .i64 a3).wf = true ∧ (Lit.int .i64 a6).wf = true ∧ (Lit.int .i64 a7).wf = true := by
  obtain ⟨cells, rfl, hsz⟩ := okWide_struct Tryz.underlying44 hv
  obtain ⟨l⟩ := cells
  have hC : Tryz.prog.cellsOf 44 = 8 := by kernel_rfl
  have hlen0 : l.length = 8 := hsz.trans hC
  obtain ⟨fuel, hf⟩ := h
  obtain ⟨a0, A, n, c, ll, a2, a3, a4, a5, a6, a7, e, hw⟩ := read_head hlen0 hf
  subst e
  exact ⟨a0, A, n, c, ll, a2, a3, a4, a5, a6, a7, rfl, hw⟩
end Go.Proofs.YtgdbeiadlgkedaaGreatDoor
