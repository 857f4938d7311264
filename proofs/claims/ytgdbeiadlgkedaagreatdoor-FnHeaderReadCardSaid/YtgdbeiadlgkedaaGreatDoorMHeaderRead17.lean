/- Contracts and plain laws, several texts in one. -/
import Derived.Test.YtgdbeiadlgkedaaGreatDoorMHeaderRead11
import Derived.Test.YtgdbeiadlgkedaaGreatDoorMHeaderRead15
import Derived.Test.YtgdbeiadlgkedaaGreatDoorMHeaderRead16
set_option linter.unusedVariables false
set_option linter.unusedSimpArgs false
namespace Go.Proofs.YtgdbeiadlgkedaaGreatDoor
open Go.RowKit PFnWindowOne Go.Proofs.YtgdbeiadlgkedaaGreatDoorW.PrintWords
attribute [local go_sem high] eqA50 eqA42 field67_0 field65_2
theorem D1.c14 {w0 w1 x : World} {v0 v1 v2 v3 v4 v5 v6 v7 v8 u0 u1 u2 u3 u4 : Value} {T T' : TypeId} (h : D1 w0 #[v0, v1, v2, v3, v4, v5, v6, v7, v8] T x) (h' : D1 w1 #[u0, u1, u2, u3, u4] T' x) : x.cell? ⟨w0.heap.size, 0, none⟩ = some v0 ∧ x.cell? ⟨w0.heap.size, 1, none⟩ = some v1 ∧ x.cell? ⟨w0.heap.size, 2, none⟩ = some v2 ∧ x.cell? ⟨w0.heap.size, 3, none⟩ = some v3 ∧ x.cell? ⟨w0.heap.size, 4, none⟩ = some v4 ∧ x.cell? ⟨w0.heap.size, 5, none⟩ = some v5 ∧ x.cell? ⟨w0.heap.size, 6, none⟩ = some v6 ∧ x.cell? ⟨w0.heap.size, 7, none⟩ = some v7 ∧ x.cell? ⟨w0.heap.size, 8, none⟩ = some v8 ∧ x.cell? ⟨w1.heap.size, 0, none⟩ = some u0 ∧ x.cell? ⟨w1.heap.size, 1, none⟩ = some u1 ∧ x.cell? ⟨w1.heap.size, 2, none⟩ = some u2 ∧ x.cell? ⟨w1.heap.size, 3, none⟩ = some u3 ∧ x.cell? ⟨w1.heap.size, 4, none⟩ = some u4 := by
  obtain ⟨a0, a1, a2, a3, a4, a5, a6, a7, a8⟩ := (D1.cells9 h).1
  obtain ⟨b0, b1, b2, b3, b4⟩ := laid5 h'.1
  exact ⟨a0, a1, a2, a3, a4, a5, a6, a7, a8, b0, b1, b2, b3, b4⟩
set_option maxHeartbeats 8000000 in
set_option maxRecDepth 100000 in
theorem hread_R (pe pl : Addr) (b : Bool) (t : ByteArray) (w : World) (he : Env w.heap.size pe pl w) (h : t.size ≤ 400) (h8 : 8 ≤ t.size) (T : Int) (hT : tmOf t.data.toList = T) (ho : -9223372036854775 ≤ T ∧ T ≤ 9223372036854775) (ys : List S23) (hy : ys.length ≤ 10000) (tt : Nat) (f la : Bool) (ix m : Int) (u : Nat)
    (hs : ∀ W, Calls Tryz.prog 29 #[.int .i64 (kOf b), .string t] W fun e w' => ∃ (A2 : Option Addr) (c2 : Nat), e = .returned (.agg #[.slice A2 ys.length c2, .int .i64 T, .int .i64 (tt : Nat), .bool f, .bool la, .int .i64 ix, .int .i64 m, .int .i64 (u : Nat), .int .i64 0]) ∧ Kd.C k32 w' A2 ys.length (ys.map toS) ∧ Below W.heap.size W w')
    (hd : ∀ W, Env w.heap.size pe pl W → w.heap.size ≤ W.heap.size → Calls Tryz.prog 23 #[.int .i64 (kOf b), .string t] W fun x w' => ∃ (A : Option Addr) (c : Nat), x = .returned (.tuple #[.slice A ys.length c, .int .i64 T, .agg #[.int .i64 (tt : Nat), .bool f, .bool la, .int .i64 ix, .int .i64 m], .int .i64 (u : Nat), .string ⟨#[]⟩]) ∧ Kd.C k23 w' A ys.length ys ∧ ys.length ≤ c ∧ Below W.heap.size W w') :
    Calls Tryz.prog 9 #[.bool b, .string t] w fun x w' => x = .returned (.bool true) ∧ Below w.heap.size w w' := by
  have HE := Lib.hid he
  have HS := Lib.hid hs
  have HDD := Lib.hid hd
  have h2 : (t.size : Int) ≤ 400 := by omega
  have q8 : (8 : Int) ≤ (t.size : Int) := by omega
  have hy2 : (ys.length : Int) ≤ 10000 := by omega
  have HT4 := Lib.hid (fun W => by have := decd_4_ok t W h8; rw [show wrap64 (wrap64 ((Lib.beNat (t.data.toList.take 8)) : Nat) + -9223372036854775808) = T from hT] at this; exact this)
  have HST := Lib.hid (fun W => by have := spanTime_any T W; rw [decide_eq_true ho] at this; exact this)
  have HCA := Lib.hid (fun W => codPaneZ tt f la ix m W)
  have HSW := Lib.hid (fun (A' : Option Addr) (c' : Nat) (W : World) (h : Kd.C k23 W A' ys.length ys) (h2 : ys.length ≤ c') => laws_codSpanOf.calls (ys.length + 1) A' c' ys _ W h h2 (spanOf_f ys (by omega)))
  have HSM := Lib.hid (fun (A0 : Option Addr) (c0 : Nat) (A1 : Option Addr) (c1 : Nat) (W : World) (h1 : Kd.C k32 W A0 ys.length (ys.map toS)) (h2 : Kd.C k32 W A1 ys.length (ys.map toS)) => same_eq A0 c0 A1 c1 ys W h1 h2)
  clear h he hs hd h8 ho hT hy
  go_enter Tryz.func9, Tryz.ntmps9
  go_wp2_with (first
    | (go_at_call 21; go_loud (refine (kind_any b _).mono ?_; rintro e_ w1 ⟨rfl, rfl⟩))
    | (go_at_call 29; go_loud ((with_reducible refine (HS.out _).mono ?_); rintro e_ w2 ⟨A2, c2, rfl, hC, hb⟩; have HX2 := Lib.hid (show D1 w2 #[.slice A2 ys.length c2, .int .i64 T, .int .i64 (tt : Nat), .bool f, .bool la, .int .i64 ix, .int .i64 m, .int .i64 (u : Nat), .int .i64 0] 60 (w2.alloc (.cells #[.slice A2 ys.length c2, .int .i64 T, .int .i64 (tt : Nat), .bool f, .bool la, .int .i64 ix, .int .i64 m, .int .i64 (u : Nat), .int .i64 0] 60)) from ⟨heap_alloc_new w2 _, below_alloc (Below.refl _ _) _⟩); have HW2 := Lib.hid (below_alloc hb (.cells #[.slice A2 ys.length c2, .int .i64 T, .int .i64 (tt : Nat), .bool f, .bool la, .int .i64 ix, .int .i64 m, .int .i64 (u : Nat), .int .i64 0] 60)); have HC2 := Lib.hid (show Kd.C k32 (w2.alloc (.cells #[.slice A2 ys.length c2, .int .i64 T, .int .i64 (tt : Nat), .bool f, .bool la, .int .i64 ix, .int .i64 m, .int .i64 (u : Nat), .int .i64 0] 60)) A2 ys.length (ys.map toS) from Kd.C_below hC (below_alloc (Below.refl _ _) _)); clear hb hC))
    | (go_at_call 31; go_loud ((with_reducible refine (HT4.out _).mono ?_); rintro e_ w3 ⟨rfl, hb⟩; have HX3 := Lib.hid (D1.step HX2.out hb); have HW3 := Lib.hid (below_then HW2.out HW2.out.size hb); have HC3 := Lib.hid (Kd.C_below HC2.out hb); clear hb))
    | (go_at_call 30; go_loud ((with_reducible refine (HST.out _).mono ?_); rintro e_ w4 ⟨rfl, hb⟩; have HX4 := Lib.hid (D1.step HX3.out hb); have HW4 := Lib.hid (below_then HW3.out HW3.out.size hb); have HC4 := Lib.hid (Kd.C_below HC3.out hb); clear hb))
    | (go_at_call 23; go_loud ((with_reducible refine (HDD.out _ (HE.out.below HW4.out) HW4.out.size).mono ?_); rintro e_ w5 ⟨A5, c5, rfl, hC, hc, hb⟩; have HX5 := Lib.hid (D1.step (D1.step HX4.out hb) (show Below w5.heap.size w5 (w5.alloc (.cells #[.int .i64 (tt : Nat), .bool f, .bool la, .int .i64 ix, .int .i64 m] 42)) from below_alloc (Below.refl _ _) _)); have HW5 := Lib.hid (below_then HW4.out HW4.out.size hb); have HC5 := Lib.hid (Kd.C_below HC4.out hb); have HL5 := Lib.hid (And.intro hC hc); have z9 := HX5.out.cells9.1.2.2.2.2.2.2.2.2; clear hb hC hc)))
  have HA9 := Lib.hid (show Below w5.heap.size w5 (w5.alloc (.cells #[.int .i64 (tt : Nat), .bool f, .bool la, .int .i64 ix, .int .i64 m] 42)).drew from below_drew (below_alloc (Below.refl _ _) _))
  have HX6 := Lib.hid (show D1 w2 #[.slice A2 ys.length c2, .int .i64 T, .int .i64 (tt : Nat), .bool f, .bool la, .int .i64 ix, .int .i64 m, .int .i64 (u : Nat), .int .i64 0] 60 (w5.alloc (.cells #[.int .i64 (tt : Nat), .bool f, .bool la, .int .i64 ix, .int .i64 m] 42)).drew from ⟨HX5.out.1, below_drew HX5.out.2⟩)
  have HP6 := Lib.hid (show D1 w5 #[.int .i64 (tt : Nat), .bool f, .bool la, .int .i64 ix, .int .i64 m] 42 (w5.alloc (.cells #[.int .i64 (tt : Nat), .bool f, .bool la, .int .i64 ix, .int .i64 m] 42)).drew from ⟨heap_alloc_new w5 _, HA9.out⟩)
  have HW6 := Lib.hid (show Below w.heap.size w (w5.alloc (.cells #[.int .i64 (tt : Nat), .bool f, .bool la, .int .i64 ix, .int .i64 m] 42)).drew from below_then HW5.out HW5.out.size HA9.out)
  have HC6 := Lib.hid (Kd.C_below HC5.out HA9.out)
  have HL6 := Lib.hid (C_move HL5.out.1 HA9.out)
  have K6 := D1.c14 HX6.out HP6.out
  clear z9
  go_region_held3 (fun w' => w'.cell? ⟨w2.heap.size, 0, none⟩ = some (.slice A2 ys.length c2) ∧ w'.cell? ⟨w2.heap.size, 1, none⟩ = some (.int .i64 T) ∧ w'.cell? ⟨w2.heap.size, 2, none⟩ = some (.int .i64 (tt : Nat)) ∧ w'.cell? ⟨w2.heap.size, 3, none⟩ = some (.bool f) ∧ w'.cell? ⟨w2.heap.size, 4, none⟩ = some (.bool la) ∧ w'.cell? ⟨w2.heap.size, 5, none⟩ = some (.int .i64 ix) ∧ w'.cell? ⟨w2.heap.size, 6, none⟩ = some (.int .i64 m) ∧ w'.cell? ⟨w2.heap.size, 7, none⟩ = some (.int .i64 (u : Nat)) ∧ w'.cell? ⟨w2.heap.size, 8, none⟩ = some (.int .i64 0) ∧ w'.cell? ⟨w5.heap.size, 0, none⟩ = some (.int .i64 (tt : Nat)) ∧ w'.cell? ⟨w5.heap.size, 1, none⟩ = some (.bool f) ∧ w'.cell? ⟨w5.heap.size, 2, none⟩ = some (.bool la) ∧ w'.cell? ⟨w5.heap.size, 3, none⟩ = some (.int .i64 ix) ∧ w'.cell? ⟨w5.heap.size, 4, none⟩ = some (.int .i64 m)) (with_reducible assumption) (first
    | (go_at_call 11; go_loud ((with_reducible refine (awake_any w.heap.size pe pl (w5.alloc (.cells #[.int .i64 (tt : Nat), .bool f, .bool la, .int .i64 ix, .int .i64 m] 42)).drew (HE.out.below HW6.out) HW6.out.size).mono ?_); rintro e_ w7 ⟨rfl, hb⟩; have HX7 := Lib.hid (D1.step HX6.out hb); have HP7 := Lib.hid (D1.step HP6.out hb); have HW7 := Lib.hid (below_then HW6.out HW6.out.size hb); have HC7 := Lib.hid (Kd.C_below HC6.out hb); have HL7 := Lib.hid (C_move HL6.out hb); have K7 := D1.c14 HX7.out HP7.out; clear hb))
    | (go_at_call 24; go_loud ((with_reducible refine (HCA.out w7).mono ?_); rintro e_ w8 ⟨rfl, hb⟩; have HX8 := Lib.hid (D1.step HX7.out hb); have HP8 := Lib.hid (D1.step HP7.out hb); have HW8 := Lib.hid (below_then HW7.out HW7.out.size hb); have HC8 := Lib.hid (Kd.C_below HC7.out hb); have HL8 := Lib.hid (C_move HL7.out hb); have K8 := D1.c14 HX8.out HP8.out; clear hb))
    | (go_at_call 15; go_loud ((with_reducible refine (HSW.out A5 c5 w8 HL8.out HL5.out.2).mono ?_); rintro e_ w9 ⟨v, rfl, hR, hb⟩; obtain ⟨A9, c9, e9⟩ := Kd.R_slice hR; subst e9; (try rw [List.length_map]); have HR9 := Lib.hid (show Kd.C k32 w9 A9 ys.length (ys.map toS) from by have := (Kd.R_reads' hR).2.2; rwa [List.length_map] at this); have HX9 := Lib.hid (D1.step HX8.out hb); have HP9 := Lib.hid (D1.step HP8.out hb); have HW9 := Lib.hid (below_then HW8.out HW8.out.size hb); have HC9 := Lib.hid (Kd.C_below HC8.out hb); have K9 := D1.c14 HX9.out HP9.out; clear hb hR))
    | (go_at_call 18; go_loud ((with_reducible refine (HSM.out A9 c9 A2 c2 w9 HR9.out HC9.out).mono ?_); rintro e_ w10 ⟨rfl, q, hq⟩; have HX10 := Lib.hid (show D1 w2 #[.slice A2 ys.length c2, .int .i64 T, .int .i64 (tt : Nat), .bool f, .bool la, .int .i64 ix, .int .i64 m, .int .i64 (u : Nat), .int .i64 0] 60 w10 by rw [hq]; exact D1.drewN HX9.out q); have HP10 := Lib.hid (show D1 w5 #[.int .i64 (tt : Nat), .bool f, .bool la, .int .i64 ix, .int .i64 m] 42 w10 by rw [hq]; exact D1.drewN HP9.out q); have HW10 := Lib.hid (show Below w.heap.size w w10 by rw [hq]; exact below_drewN HW9.out q); have K10 := D1.c14 HX10.out HP10.out; clear hq)))
  all_goals
    clear K6 K7 K8 K9 K10
    refine (by assumption : ∀ (a : Act) (w : World), Code.wp _ _ _ a w → _) _ _ ?_
    go_wp2
    go_ret
    exact ⟨rfl, HW10.out⟩
end Go.Proofs.YtgdbeiadlgkedaaGreatDoor
set_option linter.unusedVariables false
set_option linter.unusedSimpArgs false
namespace Go.Proofs.YtgdbeiadlgkedaaGreatDoor
open Go.RowKit PFnWindowOne Go.Proofs.YtgdbeiadlgkedaaGreatDoorW.PrintWords
theorem rdWins_le : ∀ (n : Nat) (l : List UInt8) (xs : List S23) (q : Nat), rdWins n l = some (xs, q) → q ≤ l.length
  | 0, l, xs, q, h => by simp [rdWins] at h; obtain ⟨rfl, rfl⟩ := h; exact Nat.zero_le _
  | n + 1, l, xs, q, h => by
    obtain ⟨x, k, ys, q', h1, h2, rfl, rfl⟩ := rdWins_ok h
    have e1 := rdWin_le h1
    have e2 := rdWins_le n _ ys q' h2
    rw [List.length_drop] at e2
    omega
theorem rdPane_le {l : List UInt8} {t : Nat} {f la : Bool} {i n : Int} {k : Nat} (h : rdPane l = .right t f la i n k) : k ≤ l.length ∧ t < 4 := by
  cases l with
  | nil => cases h
  | cons x r =>
    simp only [rdPane] at h
    split at h
    · injection h with a1 a2 a3 a4 a5 a6
      subst a1 a6
      exact ⟨by simp, Nat.mod_lt _ (by decide)⟩
    · split at h
      · split at h
        · cases h
        · rename_i v k' hv
          obtain ⟨_, _, h1, _⟩ := vrd_facts _ 0 0 v k' (by decide) hv
          injection h with a1 a2 a3 a4 a5 a6
          subst a1 a6
          exact ⟨by rw [List.length_cons]; omega, Nat.mod_lt _ (by decide)⟩
      · split at h
        · split at h
          · cases h
          · rename_i v k' hv
            obtain ⟨_, _, h1, _⟩ := vrd_facts _ 0 0 v k' (by decide) hv
            split at h
            · cases h
            · rename_i v2 k2 hv2
              obtain ⟨_, _, h3, _⟩ := vrd_facts _ 0 0 v2 k2 (by decide) hv2
              rw [List.length_drop] at h3
              injection h with a1 a2 a3 a4 a5 a6
              subst a1 a6
              exact ⟨by rw [List.length_cons]; omega, Nat.mod_lt _ (by decide)⟩
        · cases h
theorem hn8 {L : List UInt8} (h : nWins (L.drop 8) ≤ 10000) : wrap32 (Lib.beNat ((L.drop (0 + 8)).take 4) : Nat) = (nWins (L.drop 8) : Int) := by
  show wrap32 ((nWins (L.drop 8) : Nat) : Int) = _
  unfold wrap32; omega
theorem headR (B : Nat) (pe pl : Addr) (b : Bool) (t : ByteArray) (h : t.size ≤ 400) (T : Int) (hT : tmOf t.data.toList = T) (ys : List S23) (z : Nat) (h4 : 8 + 4 ≤ t.size) (hc : (b = false ∧ ys = [gSp] ∧ z = 4) ∨ (b = true ∧ nWins (t.data.toList.drop 8) ≤ 10000 ∧ ∃ q, z = 4 + q ∧ rdWins (nWins (t.data.toList.drop 8)) ((t.data.toList.drop 8).drop 4) = some (ys, q))) (tt : Nat) (htt : tt < 4) (f la : Bool) (ix m : Int) (kk u : Nat) (hp : rdPane (t.data.toList.drop (8 + z)) = .right tt f la ix m kk) (hu : 8 + z + kk = u) (W : World) (he : Env B pe pl W) (hB : B ≤ W.heap.size) :
    Calls Tryz.prog 23 #[.int .i64 (kOf b), .string t] W fun x w' => ∃ (A : Option Addr) (c : Nat), x = .returned (.tuple #[.slice A ys.length c, .int .i64 T, .agg #[.int .i64 (tt : Nat), .bool f, .bool la, .int .i64 ix, .int .i64 m], .int .i64 (u : Nat), .string ⟨#[]⟩]) ∧ Kd.C k23 w' A ys.length ys ∧ ys.length ≤ c ∧ Below W.heap.size W w' := by
  have hz := len_data t
  have h8 : 0 + 8 ≤ t.data.toList.length := by omega
  have e4 : 0 + 8 + 4 ≤ t.data.toList.length := by omega
  have hT' : wrap64 (wrap64 (Lib.beNat ((t.data.toList.drop 0).take 8) : Nat) + -9223372036854775808) = T := by rw [List.drop_zero]; exact hT
  rcases hc with ⟨rfl, rfl, rfl⟩ | ⟨rfl, hn, q, rfl, hr⟩
  · exact headOf_0_right B pe pl t W (by omega) he hB h8 T hT' 1 (by decide) [gSp] (0 + 8 + 4) (fun r g a W h1 h2 h3 h4 => decGlob_row a r g t.data.toList (0 + 8) W h1 e4) tt (by omega) f la ix m kk u hp (by omega)
  · rw [List.drop_drop] at hr
    have := headOf_1_right B pe pl t W (by omega) he hB h8 T hT' (nWins (t.data.toList.drop 8)) (by omega) ys (0 + 8 + 4 + q) (fun r g a W h1 h2 h3 h4 => decAll_ok B pe pl a r g t.data.toList (0 + 8) W h1 h2 h3 h4 e4 (nWins (t.data.toList.drop 8)) (hn8 hn) hn ys q hr) tt (by omega) f la ix m kk u (by rw [show 0 + 8 + 4 + q = 8 + (4 + q) by omega]; exact hp) (by omega)
    rw [nz_id (rdWins_f0 _ _ ys q hr).2] at this
    exact this
theorem headW_few (B : Nat) (pe pl : Addr) (b : Bool) (t : ByteArray) (h8 : ¬ 8 ≤ t.size) (W : World) (he : Env B pe pl W) (hB : B ≤ W.heap.size) :
    Calls Tryz.prog 23 #[.int .i64 (kOf b), .string t] W fun x w' => ∃ (m : Nat) (s : ByteArray), x = .returned (.tuple #[.slice none 0 0, .int .i64 0, .agg #[.int .i64 3, .bool true, .bool true, .int .i64 0, .int .i64 0], .int .i64 (m : Nat), .string s]) ∧ s.data.toList ≠ [] ∧ Below W.heap.size W w' := by
  have hz := len_data t
  have e8 : ¬ 0 + 8 ≤ t.data.toList.length := by omega
  cases b with
  | false => exact headOf_0_wrong B pe pl t W (by omega) he hB (fun r a W' h1 h2 h3 h4 => decHead_0_few B pe pl a r _ _ W' h1 h2 h3 h4 e8)
  | true => exact headOf_1_wrong B pe pl t W (by omega) he hB (fun r a W' h1 h2 h3 h4 => decHead_1_few B pe pl a r _ _ W' h1 h2 h3 h4 e8)
theorem headW_win (B : Nat) (pe pl : Addr) (b : Bool) (t : ByteArray) (h : t.size ≤ 400) (h8 : 8 ≤ t.size) (hc : t.size < 8 + 4 ∨ (8 + 4 ≤ t.size ∧ b = true ∧ nWins (t.data.toList.drop 8) ≤ 10000 ∧ rdWins (nWins (t.data.toList.drop 8)) ((t.data.toList.drop 8).drop 4) = none)) (W : World) (he : Env B pe pl W) (hB : B ≤ W.heap.size) :
    Calls Tryz.prog 23 #[.int .i64 (kOf b), .string t] W fun x w' => ∃ (m : Nat) (s : ByteArray), x = .returned (.tuple #[.slice none 0 0, .int .i64 0, .agg #[.int .i64 3, .bool true, .bool true, .int .i64 0, .int .i64 0], .int .i64 (m : Nat), .string s]) ∧ s.data.toList ≠ [] ∧ Below W.heap.size W w' := by
  have hz := len_data t
  have e8 : 0 + 8 ≤ t.data.toList.length := by omega
  rcases hc with h4 | ⟨h4, rfl, hn, hr⟩
  · have e4 : ¬ 0 + 8 + 4 ≤ t.data.toList.length := by omega
    cases b with
    | false => exact headOf_0_wrong B pe pl t W (by omega) he hB (fun r a W' h1 h2 h3 h4 => decHead_0_win B pe pl a r _ _ W' h1 h2 h3 h4 e8 (fun a W1 g1 g2 g3 g4 => (decGlob_few B pe pl a r _ _ (0 + 8) W1 g1 g2 g3 e4).mono (by rintro e w' ⟨gb, ev, rfl, _, hf⟩; exact ⟨_, ev, rfl, hf⟩)))
    | true => exact headOf_1_wrong B pe pl t W (by omega) he hB (fun r a W' h1 h2 h3 h4 => decHead_1_win B pe pl a r _ _ W' h1 h2 h3 h4 e8 (fun a W1 g1 g2 g3 g4 => (decAll_few B pe pl a r _ _ (0 + 8) W1 g1 g2 g3 e4).mono (by rintro e w' ⟨gb, ev, rfl, hf⟩; exact ⟨_, ev, rfl, hf⟩)))
  · have e4 : 0 + 8 + 4 ≤ t.data.toList.length := by omega
    rw [List.drop_drop] at hr
    exact headOf_1_wrong B pe pl t W (by omega) he hB (fun r a W' h1 h2 h3 h4 => decHead_1_win B pe pl a r _ _ W' h1 h2 h3 h4 e8 (fun a W1 g1 g2 g3 g4 => (decAll_bad B pe pl a r _ _ (0 + 8) W1 g1 g2 g3 g4 e4 (nWins (t.data.toList.drop 8)) (hn8 hn) hn hr).mono (by rintro e w' ⟨ev, rfl, hf⟩; exact ⟨_, ev, rfl, hf⟩)))
theorem headW_pane (B : Nat) (pe pl : Addr) (b : Bool) (t : ByteArray) (h : t.size ≤ 400) (ys : List S23) (z : Nat) (h4 : 8 + 4 ≤ t.size) (hc : (b = false ∧ ys = [gSp] ∧ z = 4) ∨ (b = true ∧ nWins (t.data.toList.drop 8) ≤ 10000 ∧ ∃ q, z = 4 + q ∧ rdWins (nWins (t.data.toList.drop 8)) ((t.data.toList.drop 8).drop 4) = some (ys, q))) (hp : rdPane (t.data.toList.drop (8 + z)) = .wrong) (W : World) (he : Env B pe pl W) (hB : B ≤ W.heap.size) :
    Calls Tryz.prog 23 #[.int .i64 (kOf b), .string t] W fun x w' => ∃ (m : Nat) (s : ByteArray), x = .returned (.tuple #[.slice none 0 0, .int .i64 0, .agg #[.int .i64 3, .bool true, .bool true, .int .i64 0, .int .i64 0], .int .i64 (m : Nat), .string s]) ∧ s.data.toList ≠ [] ∧ Below W.heap.size W w' := by
  have hz := len_data t
  have e8 : 0 + 8 ≤ t.data.toList.length := by omega
  have e4 : 0 + 8 + 4 ≤ t.data.toList.length := by omega
  rcases hc with ⟨rfl, rfl, rfl⟩ | ⟨rfl, hn, q, rfl, hr⟩
  · exact headOf_0_wrong B pe pl t W (by omega) he hB (fun r a W' h1 h2 h3 h4 => decHead_0_pane B pe pl a r _ _ W' h1 h2 h3 h4 e8 1 [gSp] (0 + 8 + 4) (fun a W1 g1 g2 g3 g4 => decGlob_row a r _ t.data.toList (0 + 8) W1 g1 e4) hp)
  · rw [List.drop_drop] at hr
    exact headOf_1_wrong B pe pl t W (by omega) he hB (fun r a W' h1 h2 h3 h4 => decHead_1_pane B pe pl a r _ _ W' h1 h2 h3 h4 e8 (nWins (t.data.toList.drop 8)) ys (0 + 8 + 4 + q) (fun a W1 g1 g2 g3 g4 => decAll_ok B pe pl a r _ t.data.toList (0 + 8) W1 g1 g2 g3 g4 e4 (nWins (t.data.toList.drop 8)) (hn8 hn) hn ys q hr) (by rw [show 0 + 8 + 4 + q = 8 + (4 + q) by omega]; exact hp))
theorem hread_row (pe pl : Addr) (b : Bool) (t : ByteArray) (w : World) (he : Env w.heap.size pe pl w) :
    Calls Tryz.prog 9 #[.bool b, .string t] w fun x w' => x = .returned (.bool true) ∧ Below w.heap.size w w' := by
  by_cases h1 : 2147483647 < t.size
  · exact hread_long b t w h1
  by_cases h2 : 400 < t.size
  · exact hread_much pe pl b t w he h1 h2
  have h : t.size ≤ 400 := by omega
  have hz := len_data t
  by_cases h8 : 8 ≤ t.size
  case neg => exact hread_Ws pe pl b t w he h h8 (fun W => (hf_few b t (by omega) W).mono (by rintro e w' ⟨rfl, hb⟩; exact ⟨none, 0, 0, 0, 0, false, false, 0, 0, 0, rfl, hb⟩)) (fun W a c => headW_few w.heap.size pe pl b t h8 W a c)
  obtain ⟨S, hS⟩ : ∃ S, S = t.extract 8 t.size := ⟨_, rfl⟩
  have hSl : S.data.toList = t.data.toList.drop 8 := by rw [hS]; exact drop_strD t 8
  have hSz : S.size = t.size - 8 := by have := len_data S; rw [hSl, List.length_drop, hz] at this; omega
  rcases spans_said b S (by omega) with ⟨ys, z, hy, hw, h4, hc⟩ | ⟨hw, hc⟩ | hw
  · rw [hSl] at hc
    rw [hS] at hw
    have hz8 : 8 + z ≤ t.size := by
      rcases hc with ⟨_, _, rfl⟩ | ⟨_, _, q, rfl, hr⟩
      · omega
      · have := rdWins_le _ _ _ _ hr; rw [List.length_drop, List.length_drop, hz] at this; omega
    have hxl : (t.extract (8 + z) t.size).data.toList = t.data.toList.drop (8 + z) := drop_strD t (8 + z)
    have hxz : (t.extract (8 + z) t.size).size ≤ 4294967296 := by have := len_data (t.extract (8 + z) t.size); rw [hxl, List.length_drop, hz] at this; omega
    cases hp : rdPane (t.data.toList.drop (8 + z)) with
    | right tt f la ix m kk =>
      obtain ⟨hkk, htt⟩ := rdPane_le hp
      rw [List.length_drop, hz] at hkk
      have hs := fun W => hf_right b t h8 _ rfl ys z hz8 h hw tt f la ix m kk (8 + z + kk) rfl (by omega) (fun W => paneRead_right _ hxz tt f la ix m kk (by rw [hxl]; exact hp) W) W
      by_cases ho : -9223372036854775 ≤ tmOf t.data.toList ∧ tmOf t.data.toList ≤ 9223372036854775
      · exact hread_R pe pl b t w he h h8 _ rfl ho ys hy tt f la ix m (8 + z + kk) hs (fun W a c => headR w.heap.size pe pl b t h _ rfl ys z (by omega) hc tt htt f la ix m kk _ hp rfl W a c)
      · exact hread_T pe pl b t w he h h8 ho 0 (by decide) (fun W => (hs W).mono (by rintro e w' ⟨A, c, rfl, _, hb⟩; exact ⟨A, _, c, _, _, f, la, ix, m, _, rfl, hb⟩))
    | wrong =>
      have hs := fun W => hf_pane b t h8 ys z hz8 h hw 1 (by decide) (fun W => paneRead_wrong _ hxz (by rw [hxl]; exact hp) W) W
      by_cases ho : -9223372036854775 ≤ tmOf t.data.toList ∧ tmOf t.data.toList ≤ 9223372036854775
      · exact hread_Wl pe pl b t w he h h8 ho (fun W => (hs W).mono (by rintro e w' ⟨rfl, hb⟩; exact ⟨none, 0, 0, 0, 0, false, false, 0, 0, 0, rfl, hb⟩)) (fun W a c => headW_pane w.heap.size pe pl b t h ys z (by omega) hc hp W a c)
      · exact hread_T pe pl b t w he h h8 ho 1 (by decide) (fun W => (hs W).mono (by rintro e w' ⟨rfl, hb⟩; exact ⟨none, 0, 0, 0, 0, false, false, 0, 0, 0, rfl, hb⟩))
    | unsaid =>
      exact hread_U pe pl b t w he h (fun W => (hf_pane b t h8 ys z hz8 h hw 2 (by decide) (fun W => paneRead_unsaid _ (by rw [hxl]; exact hp) W) W).mono (by rintro e w' ⟨rfl, hb⟩; exact ⟨none, 0, 0, 0, 0, false, false, 0, 0, 0, rfl, hb⟩))
  · rw [hSl, hSz] at hc
    rw [hS] at hw
    have hs := fun W => hf_win b t h8 1 (by decide) hw W
    have hc' : t.size < 8 + 4 ∨ (8 + 4 ≤ t.size ∧ b = true ∧ nWins (t.data.toList.drop 8) ≤ 10000 ∧ rdWins (nWins (t.data.toList.drop 8)) ((t.data.toList.drop 8).drop 4) = none) := by
      rcases hc with hc | ⟨h4, hc⟩
      · left; omega
      · right; exact ⟨by omega, hc⟩
    by_cases ho : -9223372036854775 ≤ tmOf t.data.toList ∧ tmOf t.data.toList ≤ 9223372036854775
    · exact hread_Wl pe pl b t w he h h8 ho (fun W => (hs W).mono (by rintro e w' ⟨rfl, hb⟩; exact ⟨none, 0, 0, 0, 0, false, false, 0, 0, 0, rfl, hb⟩)) (fun W a c => headW_win w.heap.size pe pl b t h h8 hc' W a c)
    · exact hread_T pe pl b t w he h h8 ho 1 (by decide) (fun W => (hs W).mono (by rintro e w' ⟨rfl, hb⟩; exact ⟨none, 0, 0, 0, 0, false, false, 0, 0, 0, rfl, hb⟩))
  · rw [hS] at hw
    exact hread_U pe pl b t w he h (fun W => (hf_win b t h8 2 (by decide) hw W).mono (by rintro e w' ⟨rfl, hb⟩; exact ⟨none, 0, 0, 0, 0, false, false, 0, 0, 0, rfl, hb⟩))
end Go.Proofs.YtgdbeiadlgkedaaGreatDoor
