/- Contracts and plain laws, several texts in one. -/
import Derived.Test.YtgdbeiadlgkedaaGreatDoorMHeaderRead11
import Derived.Test.YtgdbeiadlgkedaaGreatDoorMHeaderRead14
import Derived.Deep.RegionHeld3
set_option linter.unusedVariables false
set_option linter.unusedSimpArgs false
namespace Go.Proofs.YtgdbeiadlgkedaaGreatDoor
open Go.RowKit PFnWindowOne Go.Proofs.YtgdbeiadlgkedaaGreatDoorW.PrintWords
theorem D1.set5 {w x : World} {a0 a1 a2 a3 a4 : Value} {T : TypeId} (h : D1 w #[a0, a1, a2, a3, a4] T x) (v0 v1 v2 v3 v4 : Value) : D1 w #[v0, v1, v2, v3, v4] T (((((x.setCell ⟨w.heap.size, 0, none⟩ v0).setCell ⟨w.heap.size, 1, none⟩ v1).setCell ⟨w.heap.size, 2, none⟩ v2).setCell ⟨w.heap.size, 3, none⟩ v3).setCell ⟨w.heap.size, 4, none⟩ v4) :=
  ⟨Go.Proofs.YtgdbeiadlgkedaaGreatDoor.set5 h.1 v0 v1 v2 v3 v4, h.2.trans (set5_below (Nat.le_refl _) v0 v1 v2 v3 v4)⟩
theorem D1.c5 {w0 x : World} {v0 v1 v2 v3 v4 : Value} {T : TypeId} (h : D1 w0 #[v0, v1, v2, v3, v4] T x) : x.cell? ⟨w0.heap.size, 0, none⟩ = some v0 ∧ x.cell? ⟨w0.heap.size, 1, none⟩ = some v1 ∧ x.cell? ⟨w0.heap.size, 2, none⟩ = some v2 ∧ x.cell? ⟨w0.heap.size, 3, none⟩ = some v3 ∧ x.cell? ⟨w0.heap.size, 4, none⟩ = some v4 := laid5 h.1
theorem cells_set5 {x : World} {b k : Nat} (hne : k ≠ b) (v0 v1 v2 v3 v4 : Value) : (((((x.setCell ⟨b, 0, none⟩ v0).setCell ⟨b, 1, none⟩ v1).setCell ⟨b, 2, none⟩ v2).setCell ⟨b, 3, none⟩ v3).setCell ⟨b, 4, none⟩ v4).heap[k]? = x.heap[k]? :=
  (Below.heap_setCell _ _ _ _ hne).trans ((Below.heap_setCell _ _ _ _ hne).trans ((Below.heap_setCell _ _ _ _ hne).trans ((Below.heap_setCell _ _ _ _ hne).trans (Below.heap_setCell _ _ _ _ hne))))
theorem R_set5 {x : World} {b base : Nat} {v : Value} {l : List S23} (h : Kd.R k23 23 x base (fun _ => True) v l) (hb : b < base) (v0 v1 v2 v3 v4 : Value) : Kd.R k23 23 (((((x.setCell ⟨b, 0, none⟩ v0).setCell ⟨b, 1, none⟩ v1).setCell ⟨b, 2, none⟩ v2).setCell ⟨b, 3, none⟩ v3).setCell ⟨b, 4, none⟩ v4) base (fun _ => True) v l :=
  Kd.R_mono (Kd.R_move (Kd.R_bound h) (fun k hk => by
    obtain ⟨_, h1, _⟩ := hk
    exact cells_set5 (by omega) v0 v1 v2 v3 v4)) (fun _ _ => trivial)
set_option maxHeartbeats 4000000 in
set_option maxRecDepth 100000 in
theorem backNil_any (w : World) : Calls Tryz.prog 50 #[.slice none 0 0] w fun e w' => e = .returned (.slice none 0 0) ∧ w' = w := by
  go_enter Tryz.func50, Tryz.ntmps50
  go_wp2
  go_loopg [3, 8] 0 (fun kq v3 v8 w' => v3 = .slice none 0 0 ∧ v8 = .int .i64 0 ∧ w' = w)
  case atStart => exact ⟨rfl, rfl, rfl⟩
  case round =>
    obtain ⟨rfl, rfl, rfl⟩ := hrel
    go_wp2
    go_ret
    exact ⟨rfl, rfl⟩
set_option maxHeartbeats 8000000 in
set_option maxRecDepth 100000 in
theorem headOf_1_right (B : Nat) (pe pl : Addr) (tx : ByteArray) (w : World) (ht : tx.size ≤ 4294967296) (he : Env B pe pl w) (hB : B ≤ w.heap.size) (h8 : 0 + 8 ≤ tx.data.toList.length) (T : Int) (hT : wrap64 (wrap64 (Lib.beNat ((tx.data.toList.drop 0).take 8) : Nat) + -9223372036854775808) = T) (n : Nat) (hn : n ≤ 1000000) (ys : List S23) (p : Nat) (hw : ∀ (r g : Nat) (a : Option Addr) (W : World), Rd r g tx.data.toList (0 + 8) W → Env B pe pl W → B ≤ r → B ≤ W.heap.size → Calls Tryz.prog 159 #[.pointer a, rdI r] W fun e w' => ∃ gb, e = .returned (.tuple #[.slice (some ⟨gb, 0, none⟩) n n, .nilIface]) ∧ IfRow gb n ys w' ∧ ys.length = n ∧ W.heap.size ≤ gb ∧ W.grownBy w' (some r) ∧ Rd r g tx.data.toList p w') (t : Nat) (htt : t < 256) (f la : Bool) (ix m : Int) (kk z : Nat) (hp : rdPane (tx.data.toList.drop p) = .right t f la ix m kk) (hz : p + kk = z) :
    Calls Tryz.prog 23 #[.int .i64 1, .string tx] w fun x w' => ∃ (A : Option Addr) (c : Nat), x = .returned (.tuple #[.slice A ys.length c, .int .i64 T, .agg #[(.int .i64 (t : Nat)), (.bool f), (.bool la), (.int .i64 ix), (.int .i64 m)], .int .i64 (z : Nat), .string ⟨#[]⟩]) ∧ Kd.C k23 w' A ys.length (ys.map nz) ∧ ys.length ≤ c ∧ Below w.heap.size w w' := by
  have kc := conv_bytes
  have HT := Lib.hid (And.intro ht (And.intro he hB))
  have HBP := Lib.hid (fun W => backPane_any t f la ix m htt W)
  have HY := Lib.hid (fun (r : Nat) (W : World) (a : Nat) (h : Rd r (w.heap.size + 1) tx.data.toList 0 W) (he : Env B pe pl W) (hBr : B ≤ r) (hB : B ≤ W.heap.size) => decHead_1_right B pe pl a r (w.heap.size + 1) tx.data.toList W h he hBr hB h8 T hT n ys p (hw r (w.heap.size + 1)) t f la ix m kk hp)
  rw [hz] at HY
  have HN := Lib.hid hn
  clear ht he hB h8 hT hn hw htt hp hz
  go_enter Tryz.func23, Tryz.ntmps23
  go_wp2_with (first
    | (go_at_call 42; go_loud (refine (newRd_any (w.alloc (.cells #[.int .i64 0, .bool false, .bool false, .int .i64 0, .int .i64 0] 42)) (w.heap.size + 1) (World.size_alloc ..) tx HT.out.1).mono ?_; rintro e_ w1 ⟨r, rfl, hr1, hr2, hr3⟩; obtain ⟨hs1, hs2, hs3, hs4⟩ := dv_start (b := 0) HT.out.2.2 HT.out.2.1 hr2 hr3; have HD1 := Lib.hid (show D1 w #[.int .i64 0, .bool false, .bool false, .int .i64 0, .int .i64 0] 42 w1 from ⟨hs1, hs3⟩); have HS := Lib.hid (And.intro hr1 (And.intro hs2 hs4)); have HR3 := Lib.hid hr3; clear hr1 hr2 hr3 hs1 hs2 hs3 hs4))
    | (go_at_call 39; go_loud (refine (wcoder_1 _).mono ?_; rintro e_ w2 ⟨rfl, hw⟩; have hb : Below w1.heap.size w1 w2 := (by rw [hw]; exact (Below.refl _ _).alloc (Nat.le_refl _) _); have HC2 := Lib.hid (show w2.heap[w1.heap.size]? = some (.cells #[.string iwc, .string ⟨#[]⟩] 182 (0, 0)) by rw [hw]; exact heap_alloc_new w1 _); have HB2 := Lib.hid hb; clear hw hb))
    | (go_at_call 43; go_loud (refine (wdec_1 w1.heap.size w2 HC2.out).mono ?_; rintro e_ w3 ⟨rfl, hw⟩; have hb : Below w1.heap.size w1 w3 := (by rw [hw]; exact HB2.out.alloc HB2.out.size _); have HB3 := Lib.hid hb; have HDD3 := Lib.hid (D1.step HD1.out hb); have HEN := Lib.hid (And.intro (HS.out.1.below hb) (And.intro (HT.out.2.1.below ((D1.bel HDD3.out).mono HT.out.2.2)) (And.intro HS.out.2.2 (Nat.le_trans HT.out.2.2 (D1.bel HDD3.out).size)))); clear hw hb))
    | (go_at_call 54; go_loud (refine (HY.out r w3 _ HEN.out.1 HEN.out.2.1 HEN.out.2.2.1 HEN.out.2.2.2).mono ?_; rintro e_ w4 ⟨gb, rfl, hrow, hyl, hg, hrd⟩; obtain rfl : n = ys.length := hyl.symm; have HC4 := Lib.hid (hrow.C HN.out); have HL4 := Lib.hid (show ys.length * 24 ≤ 140737488351232 by have := HN.out; omega); have HR4 := Lib.hid hrd; have HD4 := Lib.hid ((HDD3.out).grown hg (by have := HR3.out; omega)); clear hrow hg hrd hyl)))
  have KD : D1 w4 #[(.int .u8 (t : Nat)), (.bool f), (.bool la), (.int .i64 ix), (.int .i64 m)] 119 (w4.alloc (.cells #[(.int .u8 (t : Nat)), (.bool f), (.bool la), (.int .i64 ix), (.int .i64 m)] 119)).drew := ⟨heap_alloc_new w4 _, below_drew (below_alloc (Below.refl _ _) _)⟩
  have K0 := D1.c5 KD
  have HKD := Lib.hid KD
  clear KD
  have hlt4 : w.heap.size < w4.heap.size := blk_lt HD4.out.1
  have hne4 : w4.heap.size ≠ w.heap.size := by omega
  have qs : (tx.size : Int) - ((tx.data.toList.length - z : Nat) : Int) = (z : Nat) := by
    have h1 := HR4.out.le
    have h2 : tx.data.toList.length = tx.size := by rw [Array.length_toList]; rfl
    omega
  have qs2 : IntKind.i64.wrap ((z : Nat) : Int) = (z : Nat) := IntWalk.i64_in _ (by have := HR4.out.le; have := HR4.out.len; omega)
  obtain ⟨L, hL⟩ : ∃ L, Hid (tx.data.toList.length - z = L) := ⟨_, Lib.hid rfl⟩
  rw [hL.out] at qs
  go_region_held3 (fun w' => w'.cell? ⟨w4.heap.size, 0, none⟩ = some (.int .u8 (t : Nat)) ∧ w'.cell? ⟨w4.heap.size, 1, none⟩ = some (.bool f) ∧ w'.cell? ⟨w4.heap.size, 2, none⟩ = some (.bool la) ∧ w'.cell? ⟨w4.heap.size, 3, none⟩ = some (.int .i64 ix) ∧ w'.cell? ⟨w4.heap.size, 4, none⟩ = some (.int .i64 m)) (with_reducible assumption) (first
    | (go_at_call 50; go_loud (refine (backWins_any _ _ ys _ (Kd.C_below HC4.out (below_drew (below_alloc (Below.refl _ _) _))) (Nat.le_refl _) HL4.out).mono ?_; rintro e_ w5 ⟨v5, rfl, hR, hb⟩; obtain ⟨A5, c5, e5⟩ := Kd.R_slice hR; subst e5; (try rw [List.length_map]); have HC5 := Lib.hid hR; have HK5 := Lib.hid (D1.step HKD.out hb); have K5 := D1.c5 HK5.out; have HR5 := Lib.hid (((HR4.out.alloc (.cells #[(.int .u8 (t : Nat)), (.bool f), (.bool la), (.int .i64 ix), (.int .i64 m)] 119)).drewN 1).below hb); clear hb hR))
    | (go_at_call 55; go_loud ((with_reducible refine (HBP.out _).mono ?_); rintro e_ w6 ⟨rfl, hb⟩; have HK6 := Lib.hid (D1.step HK5.out hb); have K6 := D1.c5 HK6.out; have HR6 := Lib.hid (HR5.out.below hb); have HC6 := Lib.hid (Kd.R_below HC5.out hb); clear hb))
    | (go_at_call 44; go_loud (refine (len_any r (w.heap.size + 1) tx.data.toList z _ HR6.out).mono ?_; rw [hL.out]; rintro e_ w7 ⟨rfl, q, hq⟩; have HK7 := Lib.hid (show D1 w4 #[(.int .u8 (t : Nat)), (.bool f), (.bool la), (.int .i64 ix), (.int .i64 m)] 119 w7 by rw [hq]; exact D1.drewN HK6.out q); have K7 := D1.c5 HK7.out; have HQ := Lib.hid hq; clear hq))
    | (go_at_call 41; go_loud (refine (word_nilZ _).mono ?_; rintro e_ w8 ⟨rfl, hw⟩; obtain rfl : w8 = w7 := (by first | exact hw | exact hw.symm); have HZ8 := Lib.hid ((D1.bel HK7.out).block _ hlt4 |>.trans HD4.out.1); obtain ⟨k0, k1, k2, k3, k4⟩ := laid5 HZ8.out; obtain ⟨g0, g1, g2, g3, g4⟩ := open5 HZ8.out; have KZ := laid5 ((cells_set5 (x := w8) hne4 (.int .i64 (t : Nat)) (.bool f) (.bool la) (.int .i64 ix) (.int .i64 m)).trans HK7.out.1))))
  all_goals
    refine (by assumption : ∀ (a : Act) (w : World), Code.wp _ _ _ a w → _) _ _ ?_
    have HW8 := Lib.hid (show Below w.heap.size w w8 from below_then (D1.bel HD4.out) (D1.bel HD4.out).size (D1.bel HK7.out))
    have HF := Lib.hid (And.intro (set5 HZ8.out (.int .i64 (t : Nat)) (.bool f) (.bool la) (.int .i64 ix) (.int .i64 m)) (HW8.out.trans (set5_any (W := w8) (b := w.heap.size) (.int .i64 (t : Nat)) (.bool f) (.bool la) (.int .i64 ix) (.int .i64 m))))
    have HRF := Lib.hid (R_set5 (x := w8) (b := w.heap.size) (Kd.R_lower (show Kd.R k23 23 w8 _ (fun _ => True) _ _ by rw [HQ.out]; exact Kd.R_drewN HC6.out q) (Nat.le_refl _)) (Nat.lt_of_lt_of_le hlt4 (D1.bel HKD.out).size) (.int .i64 (t : Nat)) (.bool f) (.bool la) (.int .i64 ix) (.int .i64 m))
    clear k0 k1 k2 k3 k4 g0 g1 g2 g3 g4 KZ
    go_wp2
    generalize (((((w8.setCell ⟨w.heap.size, 0, none⟩ (.int .i64 (t : Nat))).setCell ⟨w.heap.size, 1, none⟩ (.bool f)).setCell ⟨w.heap.size, 2, none⟩ (.bool la)).setCell ⟨w.heap.size, 3, none⟩ (.int .i64 ix)).setCell ⟨w.heap.size, 4, none⟩ (.int .i64 m)) = X at HF HRF ⊢
    obtain ⟨c0, c1, c2, c3, c4⟩ := laid5 HF.out.1
    exact bodyPost_ret (v := .tuple #[.slice A5 ys.length c5, .int .i64 T, .agg #[(.int .i64 (t : Nat)), (.bool f), (.bool la), (.int .i64 ix), (.int .i64 m)], .int .i64 (z : Nat), .string ⟨#[]⟩]) (by simp [results, Tryz.results23, go_sem, c0, c1, c2, c3, c4]; try rfl) rfl ⟨A5, c5, rfl, (by have := (Kd.R_reads' HRF.out).2.2; rwa [List.length_map] at this), (by have := (Kd.R_reads' HRF.out).2.1; rwa [List.length_map] at this), HF.out.2⟩
set_option maxHeartbeats 8000000 in
set_option maxRecDepth 100000 in
theorem headOf_0_right (B : Nat) (pe pl : Addr) (tx : ByteArray) (w : World) (ht : tx.size ≤ 4294967296) (he : Env B pe pl w) (hB : B ≤ w.heap.size) (h8 : 0 + 8 ≤ tx.data.toList.length) (T : Int) (hT : wrap64 (wrap64 (Lib.beNat ((tx.data.toList.drop 0).take 8) : Nat) + -9223372036854775808) = T) (n : Nat) (hn : n ≤ 1000000) (ys : List S23) (p : Nat) (hw : ∀ (r g : Nat) (a : Option Addr) (W : World), Rd r g tx.data.toList (0 + 8) W → Env B pe pl W → B ≤ r → B ≤ W.heap.size → Calls Tryz.prog 156 #[.pointer a, rdI r] W fun e w' => ∃ gb, e = .returned (.tuple #[.slice (some ⟨gb, 0, none⟩) n n, .nilIface]) ∧ IfRow gb n ys w' ∧ ys.length = n ∧ W.heap.size ≤ gb ∧ W.grownBy w' (some r) ∧ Rd r g tx.data.toList p w') (t : Nat) (htt : t < 256) (f la : Bool) (ix m : Int) (kk z : Nat) (hp : rdPane (tx.data.toList.drop p) = .right t f la ix m kk) (hz : p + kk = z) :
    Calls Tryz.prog 23 #[.int .i64 0, .string tx] w fun x w' => ∃ (A : Option Addr) (c : Nat), x = .returned (.tuple #[.slice A ys.length c, .int .i64 T, .agg #[(.int .i64 (t : Nat)), (.bool f), (.bool la), (.int .i64 ix), (.int .i64 m)], .int .i64 (z : Nat), .string ⟨#[]⟩]) ∧ Kd.C k23 w' A ys.length (ys.map nz) ∧ ys.length ≤ c ∧ Below w.heap.size w w' := by
  have kc := conv_bytes
  have HT := Lib.hid (And.intro ht (And.intro he hB))
  have HBP := Lib.hid (fun W => backPane_any t f la ix m htt W)
  have HY := Lib.hid (fun (r : Nat) (W : World) (a : Nat) (h : Rd r (w.heap.size + 1) tx.data.toList 0 W) (he : Env B pe pl W) (hBr : B ≤ r) (hB : B ≤ W.heap.size) => decHead_0_right B pe pl a r (w.heap.size + 1) tx.data.toList W h he hBr hB h8 T hT n ys p (hw r (w.heap.size + 1)) t f la ix m kk hp)
  rw [hz] at HY
  have HN := Lib.hid hn
  clear ht he hB h8 hT hn hw htt hp hz
  go_enter Tryz.func23, Tryz.ntmps23
  go_wp2_with (first
    | (go_at_call 42; go_loud (refine (newRd_any (w.alloc (.cells #[.int .i64 0, .bool false, .bool false, .int .i64 0, .int .i64 0] 42)) (w.heap.size + 1) (World.size_alloc ..) tx HT.out.1).mono ?_; rintro e_ w1 ⟨r, rfl, hr1, hr2, hr3⟩; obtain ⟨hs1, hs2, hs3, hs4⟩ := dv_start (b := 0) HT.out.2.2 HT.out.2.1 hr2 hr3; have HD1 := Lib.hid (show D1 w #[.int .i64 0, .bool false, .bool false, .int .i64 0, .int .i64 0] 42 w1 from ⟨hs1, hs3⟩); have HS := Lib.hid (And.intro hr1 (And.intro hs2 hs4)); have HR3 := Lib.hid hr3; clear hr1 hr2 hr3 hs1 hs2 hs3 hs4))
    | (go_at_call 39; go_loud (refine (wcoder_0 _).mono ?_; rintro e_ w2 ⟨rfl, hw⟩; have hb : Below w1.heap.size w1 w2 := (by rw [hw]; exact (Below.refl _ _).alloc (Nat.le_refl _) _); have HC2 := Lib.hid (show w2.heap[w1.heap.size]? = some (.cells #[.string gwc, .string ⟨#[]⟩] 182 (0, 0)) by rw [hw]; exact heap_alloc_new w1 _); have HB2 := Lib.hid hb; clear hw hb))
    | (go_at_call 43; go_loud (refine (wdec_0 w1.heap.size w2 HC2.out).mono ?_; rintro e_ w3 ⟨rfl, hw⟩; have hb : Below w1.heap.size w1 w3 := (by rw [hw]; exact HB2.out.alloc HB2.out.size _); have HB3 := Lib.hid hb; have HDD3 := Lib.hid (D1.step HD1.out hb); have HEN := Lib.hid (And.intro (HS.out.1.below hb) (And.intro (HT.out.2.1.below ((D1.bel HDD3.out).mono HT.out.2.2)) (And.intro HS.out.2.2 (Nat.le_trans HT.out.2.2 (D1.bel HDD3.out).size)))); clear hw hb))
    | (go_at_call 54; go_loud (refine (HY.out r w3 _ HEN.out.1 HEN.out.2.1 HEN.out.2.2.1 HEN.out.2.2.2).mono ?_; rintro e_ w4 ⟨gb, rfl, hrow, hyl, hg, hrd⟩; obtain rfl : n = ys.length := hyl.symm; have HC4 := Lib.hid (hrow.C HN.out); have HL4 := Lib.hid (show ys.length * 24 ≤ 140737488351232 by have := HN.out; omega); have HR4 := Lib.hid hrd; have HD4 := Lib.hid ((HDD3.out).grown hg (by have := HR3.out; omega)); clear hrow hg hrd hyl)))
  have KD : D1 w4 #[(.int .u8 (t : Nat)), (.bool f), (.bool la), (.int .i64 ix), (.int .i64 m)] 119 (w4.alloc (.cells #[(.int .u8 (t : Nat)), (.bool f), (.bool la), (.int .i64 ix), (.int .i64 m)] 119)).drew := ⟨heap_alloc_new w4 _, below_drew (below_alloc (Below.refl _ _) _)⟩
  have K0 := D1.c5 KD
  have HKD := Lib.hid KD
  clear KD
  have hlt4 : w.heap.size < w4.heap.size := blk_lt HD4.out.1
  have hne4 : w4.heap.size ≠ w.heap.size := by omega
  have qs : (tx.size : Int) - ((tx.data.toList.length - z : Nat) : Int) = (z : Nat) := by
    have h1 := HR4.out.le
    have h2 : tx.data.toList.length = tx.size := by rw [Array.length_toList]; rfl
    omega
  have qs2 : IntKind.i64.wrap ((z : Nat) : Int) = (z : Nat) := IntWalk.i64_in _ (by have := HR4.out.le; have := HR4.out.len; omega)
  obtain ⟨L, hL⟩ : ∃ L, Hid (tx.data.toList.length - z = L) := ⟨_, Lib.hid rfl⟩
  rw [hL.out] at qs
  go_region_held3 (fun w' => w'.cell? ⟨w4.heap.size, 0, none⟩ = some (.int .u8 (t : Nat)) ∧ w'.cell? ⟨w4.heap.size, 1, none⟩ = some (.bool f) ∧ w'.cell? ⟨w4.heap.size, 2, none⟩ = some (.bool la) ∧ w'.cell? ⟨w4.heap.size, 3, none⟩ = some (.int .i64 ix) ∧ w'.cell? ⟨w4.heap.size, 4, none⟩ = some (.int .i64 m)) (with_reducible assumption) (first
    | (go_at_call 50; go_loud (refine (backWins_any _ _ ys _ (Kd.C_below HC4.out (below_drew (below_alloc (Below.refl _ _) _))) (Nat.le_refl _) HL4.out).mono ?_; rintro e_ w5 ⟨v5, rfl, hR, hb⟩; obtain ⟨A5, c5, e5⟩ := Kd.R_slice hR; subst e5; (try rw [List.length_map]); have HC5 := Lib.hid hR; have HK5 := Lib.hid (D1.step HKD.out hb); have K5 := D1.c5 HK5.out; have HR5 := Lib.hid (((HR4.out.alloc (.cells #[(.int .u8 (t : Nat)), (.bool f), (.bool la), (.int .i64 ix), (.int .i64 m)] 119)).drewN 1).below hb); clear hb hR))
    | (go_at_call 55; go_loud ((with_reducible refine (HBP.out _).mono ?_); rintro e_ w6 ⟨rfl, hb⟩; have HK6 := Lib.hid (D1.step HK5.out hb); have K6 := D1.c5 HK6.out; have HR6 := Lib.hid (HR5.out.below hb); have HC6 := Lib.hid (Kd.R_below HC5.out hb); clear hb))
    | (go_at_call 44; go_loud (refine (len_any r (w.heap.size + 1) tx.data.toList z _ HR6.out).mono ?_; rw [hL.out]; rintro e_ w7 ⟨rfl, q, hq⟩; have HK7 := Lib.hid (show D1 w4 #[(.int .u8 (t : Nat)), (.bool f), (.bool la), (.int .i64 ix), (.int .i64 m)] 119 w7 by rw [hq]; exact D1.drewN HK6.out q); have K7 := D1.c5 HK7.out; have HQ := Lib.hid hq; clear hq))
    | (go_at_call 41; go_loud (refine (word_nilZ _).mono ?_; rintro e_ w8 ⟨rfl, hw⟩; obtain rfl : w8 = w7 := (by first | exact hw | exact hw.symm); have HZ8 := Lib.hid ((D1.bel HK7.out).block _ hlt4 |>.trans HD4.out.1); obtain ⟨k0, k1, k2, k3, k4⟩ := laid5 HZ8.out; obtain ⟨g0, g1, g2, g3, g4⟩ := open5 HZ8.out; have KZ := laid5 ((cells_set5 (x := w8) hne4 (.int .i64 (t : Nat)) (.bool f) (.bool la) (.int .i64 ix) (.int .i64 m)).trans HK7.out.1))))
  all_goals
    refine (by assumption : ∀ (a : Act) (w : World), Code.wp _ _ _ a w → _) _ _ ?_
    have HW8 := Lib.hid (show Below w.heap.size w w8 from below_then (D1.bel HD4.out) (D1.bel HD4.out).size (D1.bel HK7.out))
    have HF := Lib.hid (And.intro (set5 HZ8.out (.int .i64 (t : Nat)) (.bool f) (.bool la) (.int .i64 ix) (.int .i64 m)) (HW8.out.trans (set5_any (W := w8) (b := w.heap.size) (.int .i64 (t : Nat)) (.bool f) (.bool la) (.int .i64 ix) (.int .i64 m))))
    have HRF := Lib.hid (R_set5 (x := w8) (b := w.heap.size) (Kd.R_lower (show Kd.R k23 23 w8 _ (fun _ => True) _ _ by rw [HQ.out]; exact Kd.R_drewN HC6.out q) (Nat.le_refl _)) (Nat.lt_of_lt_of_le hlt4 (D1.bel HKD.out).size) (.int .i64 (t : Nat)) (.bool f) (.bool la) (.int .i64 ix) (.int .i64 m))
    clear k0 k1 k2 k3 k4 g0 g1 g2 g3 g4 KZ
    go_wp2
    generalize (((((w8.setCell ⟨w.heap.size, 0, none⟩ (.int .i64 (t : Nat))).setCell ⟨w.heap.size, 1, none⟩ (.bool f)).setCell ⟨w.heap.size, 2, none⟩ (.bool la)).setCell ⟨w.heap.size, 3, none⟩ (.int .i64 ix)).setCell ⟨w.heap.size, 4, none⟩ (.int .i64 m)) = X at HF HRF ⊢
    obtain ⟨c0, c1, c2, c3, c4⟩ := laid5 HF.out.1
    exact bodyPost_ret (v := .tuple #[.slice A5 ys.length c5, .int .i64 T, .agg #[(.int .i64 (t : Nat)), (.bool f), (.bool la), (.int .i64 ix), (.int .i64 m)], .int .i64 (z : Nat), .string ⟨#[]⟩]) (by simp [results, Tryz.results23, go_sem, c0, c1, c2, c3, c4]; try rfl) rfl ⟨A5, c5, rfl, (by have := (Kd.R_reads' HRF.out).2.2; rwa [List.length_map] at this), (by have := (Kd.R_reads' HRF.out).2.1; rwa [List.length_map] at this), HF.out.2⟩
set_option maxHeartbeats 8000000 in
set_option maxRecDepth 100000 in
theorem headOf_1_wrong (B : Nat) (pe pl : Addr) (tx : ByteArray) (w : World) (ht : tx.size ≤ 4294967296) (he : Env B pe pl w) (hB : B ≤ w.heap.size) (hw : ∀ (r a : Nat) (W : World), Rd r (w.heap.size + 1) tx.data.toList 0 W → Env B pe pl W → B ≤ r → B ≤ W.heap.size → Calls Tryz.prog 54 #[.iface 199 (.pointer (some ⟨a, 0, none⟩)), rdI r] W fun e w' => ∃ ev, e = .returned (.tuple #[.slice none 0 0, .int .i64 0, .agg #[.int .u8 3, .bool true, .bool true, .int .i64 0, .int .i64 0], ev]) ∧ Fell r (w.heap.size + 1) tx.data.toList W w' ev) :
    Calls Tryz.prog 23 #[.int .i64 1, .string tx] w fun x w' => ∃ (m : Nat) (s : ByteArray), x = .returned (.tuple #[.slice none 0 0, .int .i64 0, .agg #[(.int .i64 3), (.bool true), (.bool true), (.int .i64 0), (.int .i64 0)], .int .i64 (m : Nat), .string s]) ∧ s.data.toList ≠ [] ∧ Below w.heap.size w w' := by
  have kc := conv_bytes
  have HT := Lib.hid (And.intro ht (And.intro he hB))
  have HBP := Lib.hid (show ∀ W, Calls Tryz.prog 55 #[.agg #[.int .u8 3, .bool true, .bool true, .int .i64 0, .int .i64 0]] W (fun e w' => e = .returned (.agg #[.int .i64 3, .bool true, .bool true, .int .i64 0, .int .i64 0]) ∧ Below W.heap.size W w') from fun W => backPane_any 3 true true 0 0 (by decide) W)
  have HY := Lib.hid hw
  clear ht he hB hw
  go_enter Tryz.func23, Tryz.ntmps23
  go_wp2_with (first
    | (go_at_call 42; go_loud (refine (newRd_any (w.alloc (.cells #[.int .i64 0, .bool false, .bool false, .int .i64 0, .int .i64 0] 42)) (w.heap.size + 1) (World.size_alloc ..) tx HT.out.1).mono ?_; rintro e_ w1 ⟨r, rfl, hr1, hr2, hr3⟩; obtain ⟨hs1, hs2, hs3, hs4⟩ := dv_start (b := 0) HT.out.2.2 HT.out.2.1 hr2 hr3; have HD1 := Lib.hid (show D1 w #[.int .i64 0, .bool false, .bool false, .int .i64 0, .int .i64 0] 42 w1 from ⟨hs1, hs3⟩); have HS := Lib.hid (And.intro hr1 (And.intro hs2 hs4)); have HR3 := Lib.hid hr3; clear hr1 hr2 hr3 hs1 hs2 hs3 hs4))
    | (go_at_call 39; go_loud (refine (wcoder_1 _).mono ?_; rintro e_ w2 ⟨rfl, hw⟩; have hb : Below w1.heap.size w1 w2 := (by rw [hw]; exact (Below.refl _ _).alloc (Nat.le_refl _) _); have HC2 := Lib.hid (show w2.heap[w1.heap.size]? = some (.cells #[.string iwc, .string ⟨#[]⟩] 182 (0, 0)) by rw [hw]; exact heap_alloc_new w1 _); have HB2 := Lib.hid hb; clear hw hb))
    | (go_at_call 43; go_loud (refine (wdec_1 w1.heap.size w2 HC2.out).mono ?_; rintro e_ w3 ⟨rfl, hw⟩; have hb : Below w1.heap.size w1 w3 := (by rw [hw]; exact HB2.out.alloc HB2.out.size _); have HB3 := Lib.hid hb; have HDD3 := Lib.hid (D1.step HD1.out hb); have HEN := Lib.hid (And.intro (HS.out.1.below hb) (And.intro (HT.out.2.1.below ((D1.bel HDD3.out).mono HT.out.2.2)) (And.intro HS.out.2.2 (Nat.le_trans HT.out.2.2 (D1.bel HDD3.out).size)))); clear hw hb))
    | (go_at_call 54; go_loud (refine (HY.out r _ w3 HEN.out.1 HEN.out.2.1 HEN.out.2.2.1 HEN.out.2.2.2).mono ?_; rintro e_ w4 ⟨ev, rfl, hf⟩; obtain ⟨ea, es, rfl, hea, hes⟩ := hf.2.1; have HEC := Lib.hid hea; have HEA := Lib.hid hes; obtain ⟨i', hrd⟩ := hf.2.2; have HR4 := Lib.hid hrd; have HD4 := Lib.hid ((HDD3.out).grown hf.1 (by have := HR3.out; omega)); clear hf hea hes hrd)))
  have KD : D1 w4 #[(.int .u8 3), (.bool true), (.bool true), (.int .i64 0), (.int .i64 0)] 119 (w4.alloc (.cells #[(.int .u8 3), (.bool true), (.bool true), (.int .i64 0), (.int .i64 0)] 119)).drew := ⟨heap_alloc_new w4 _, below_drew (below_alloc (Below.refl _ _) _)⟩
  have K0 := D1.c5 KD
  have HKD := Lib.hid KD
  clear KD
  have hlt4 : w.heap.size < w4.heap.size := blk_lt HD4.out.1
  have hne4 : w4.heap.size ≠ w.heap.size := by omega
  have qs : (tx.size : Int) - ((tx.data.toList.length - i' : Nat) : Int) = (i' : Nat) := by
    have h1 := HR4.out.le
    have h2 : tx.data.toList.length = tx.size := by rw [Array.length_toList]; rfl
    omega
  have qs2 : IntKind.i64.wrap ((i' : Nat) : Int) = (i' : Nat) := IntWalk.i64_in _ (by have := HR4.out.le; have := HR4.out.len; omega)
  obtain ⟨L, hL⟩ : ∃ L, Hid (tx.data.toList.length - i' = L) := ⟨_, Lib.hid rfl⟩
  rw [hL.out] at qs
  go_region_held3 (fun w' => w'.cell? ⟨w4.heap.size, 0, none⟩ = some (.int .u8 3) ∧ w'.cell? ⟨w4.heap.size, 1, none⟩ = some (.bool true) ∧ w'.cell? ⟨w4.heap.size, 2, none⟩ = some (.bool true) ∧ w'.cell? ⟨w4.heap.size, 3, none⟩ = some (.int .i64 0) ∧ w'.cell? ⟨w4.heap.size, 4, none⟩ = some (.int .i64 0)) (with_reducible assumption) (first
    | (go_at_call 50; go_loud (refine (backNil_any _).mono ?_; rintro e_ w5 ⟨rfl, hw⟩; have hb : Below (w4.alloc (.cells #[(.int .u8 3), (.bool true), (.bool true), (.int .i64 0), (.int .i64 0)] 119)).drew.heap.size (w4.alloc (.cells #[(.int .u8 3), (.bool true), (.bool true), (.int .i64 0), (.int .i64 0)] 119)).drew w5 := (by rw [hw]; exact Below.refl _ _); have HK5 := Lib.hid (D1.step HKD.out hb); have K5 := D1.c5 HK5.out; have HR5 := Lib.hid (((HR4.out.alloc (.cells #[(.int .u8 3), (.bool true), (.bool true), (.int .i64 0), (.int .i64 0)] 119)).drewN 1).below hb); clear hw hb))
    | (go_at_call 55; go_loud ((with_reducible refine (HBP.out _).mono ?_); rintro e_ w6 ⟨rfl, hb⟩; have HK6 := Lib.hid (D1.step HK5.out hb); have K6 := D1.c5 HK6.out; have HR6 := Lib.hid (HR5.out.below hb); clear hb))
    | (go_at_call 44; go_loud (refine (len_any r (w.heap.size + 1) tx.data.toList i' _ HR6.out).mono ?_; rw [hL.out]; rintro e_ w7 ⟨rfl, q, hq⟩; have HK7 := Lib.hid (show D1 w4 #[(.int .u8 3), (.bool true), (.bool true), (.int .i64 0), (.int .i64 0)] 119 w7 by rw [hq]; exact D1.drewN HK6.out q); have K7 := D1.c5 HK7.out; have HEW := Lib.hid (show ∀ q0 : Nat, w7.cell? ea = some (.string es) from fun _ => (World.cell?_of_block (a := ea) ((D1.bel HK7.out).block _ (World.block_lt_of_cell? w4 ea HEC.out))).trans HEC.out); have HQ := Lib.hid hq; clear hq))
    | (go_at_call 41; go_loud (refine (word_err ea es _ (HEW.out q)).mono ?_; rintro e_ w8 ⟨rfl, hw⟩; obtain rfl : w8 = w7 := (by first | exact hw | exact hw.symm); have HZ8 := Lib.hid ((D1.bel HK7.out).block _ hlt4 |>.trans HD4.out.1); obtain ⟨k0, k1, k2, k3, k4⟩ := laid5 HZ8.out; obtain ⟨g0, g1, g2, g3, g4⟩ := open5 HZ8.out; have KZ := laid5 ((cells_set5 (x := w8) hne4 (.int .i64 3) (.bool true) (.bool true) (.int .i64 0) (.int .i64 0)).trans HK7.out.1))))
  all_goals
    refine (by assumption : ∀ (a : Act) (w : World), Code.wp _ _ _ a w → _) _ _ ?_
    have HW8 := Lib.hid (show Below w.heap.size w w8 from below_then (D1.bel HD4.out) (D1.bel HD4.out).size (D1.bel HK7.out))
    have HF := Lib.hid (And.intro (set5 HZ8.out (.int .i64 3) (.bool true) (.bool true) (.int .i64 0) (.int .i64 0)) (HW8.out.trans (set5_any (W := w8) (b := w.heap.size) (.int .i64 3) (.bool true) (.bool true) (.int .i64 0) (.int .i64 0))))
    clear k0 k1 k2 k3 k4 g0 g1 g2 g3 g4 KZ
    go_wp2
    generalize (((((w8.setCell ⟨w.heap.size, 0, none⟩ (.int .i64 3)).setCell ⟨w.heap.size, 1, none⟩ (.bool true)).setCell ⟨w.heap.size, 2, none⟩ (.bool true)).setCell ⟨w.heap.size, 3, none⟩ (.int .i64 0)).setCell ⟨w.heap.size, 4, none⟩ (.int .i64 0)) = X at HF ⊢
    obtain ⟨c0, c1, c2, c3, c4⟩ := laid5 HF.out.1
    exact bodyPost_ret (v := .tuple #[.slice none 0 0, .int .i64 0, .agg #[(.int .i64 3), (.bool true), (.bool true), (.int .i64 0), (.int .i64 0)], .int .i64 (i' : Nat), .string es]) (by simp [results, Tryz.results23, go_sem, c0, c1, c2, c3, c4]; try rfl) rfl ⟨i', es, rfl, HEA.out, HF.out.2⟩
set_option maxHeartbeats 8000000 in
set_option maxRecDepth 100000 in
theorem headOf_0_wrong (B : Nat) (pe pl : Addr) (tx : ByteArray) (w : World) (ht : tx.size ≤ 4294967296) (he : Env B pe pl w) (hB : B ≤ w.heap.size) (hw : ∀ (r a : Nat) (W : World), Rd r (w.heap.size + 1) tx.data.toList 0 W → Env B pe pl W → B ≤ r → B ≤ W.heap.size → Calls Tryz.prog 54 #[.iface 197 (.pointer (some ⟨a, 0, none⟩)), rdI r] W fun e w' => ∃ ev, e = .returned (.tuple #[.slice none 0 0, .int .i64 0, .agg #[.int .u8 3, .bool true, .bool true, .int .i64 0, .int .i64 0], ev]) ∧ Fell r (w.heap.size + 1) tx.data.toList W w' ev) :
    Calls Tryz.prog 23 #[.int .i64 0, .string tx] w fun x w' => ∃ (m : Nat) (s : ByteArray), x = .returned (.tuple #[.slice none 0 0, .int .i64 0, .agg #[(.int .i64 3), (.bool true), (.bool true), (.int .i64 0), (.int .i64 0)], .int .i64 (m : Nat), .string s]) ∧ s.data.toList ≠ [] ∧ Below w.heap.size w w' := by
  have kc := conv_bytes
  have HT := Lib.hid (And.intro ht (And.intro he hB))
  have HBP := Lib.hid (show ∀ W, Calls Tryz.prog 55 #[.agg #[.int .u8 3, .bool true, .bool true, .int .i64 0, .int .i64 0]] W (fun e w' => e = .returned (.agg #[.int .i64 3, .bool true, .bool true, .int .i64 0, .int .i64 0]) ∧ Below W.heap.size W w') from fun W => backPane_any 3 true true 0 0 (by decide) W)
  have HY := Lib.hid hw
  clear ht he hB hw
  go_enter Tryz.func23, Tryz.ntmps23
  go_wp2_with (first
    | (go_at_call 42; go_loud (refine (newRd_any (w.alloc (.cells #[.int .i64 0, .bool false, .bool false, .int .i64 0, .int .i64 0] 42)) (w.heap.size + 1) (World.size_alloc ..) tx HT.out.1).mono ?_; rintro e_ w1 ⟨r, rfl, hr1, hr2, hr3⟩; obtain ⟨hs1, hs2, hs3, hs4⟩ := dv_start (b := 0) HT.out.2.2 HT.out.2.1 hr2 hr3; have HD1 := Lib.hid (show D1 w #[.int .i64 0, .bool false, .bool false, .int .i64 0, .int .i64 0] 42 w1 from ⟨hs1, hs3⟩); have HS := Lib.hid (And.intro hr1 (And.intro hs2 hs4)); have HR3 := Lib.hid hr3; clear hr1 hr2 hr3 hs1 hs2 hs3 hs4))
    | (go_at_call 39; go_loud (refine (wcoder_0 _).mono ?_; rintro e_ w2 ⟨rfl, hw⟩; have hb : Below w1.heap.size w1 w2 := (by rw [hw]; exact (Below.refl _ _).alloc (Nat.le_refl _) _); have HC2 := Lib.hid (show w2.heap[w1.heap.size]? = some (.cells #[.string gwc, .string ⟨#[]⟩] 182 (0, 0)) by rw [hw]; exact heap_alloc_new w1 _); have HB2 := Lib.hid hb; clear hw hb))
    | (go_at_call 43; go_loud (refine (wdec_0 w1.heap.size w2 HC2.out).mono ?_; rintro e_ w3 ⟨rfl, hw⟩; have hb : Below w1.heap.size w1 w3 := (by rw [hw]; exact HB2.out.alloc HB2.out.size _); have HB3 := Lib.hid hb; have HDD3 := Lib.hid (D1.step HD1.out hb); have HEN := Lib.hid (And.intro (HS.out.1.below hb) (And.intro (HT.out.2.1.below ((D1.bel HDD3.out).mono HT.out.2.2)) (And.intro HS.out.2.2 (Nat.le_trans HT.out.2.2 (D1.bel HDD3.out).size)))); clear hw hb))
    | (go_at_call 54; go_loud (refine (HY.out r _ w3 HEN.out.1 HEN.out.2.1 HEN.out.2.2.1 HEN.out.2.2.2).mono ?_; rintro e_ w4 ⟨ev, rfl, hf⟩; obtain ⟨ea, es, rfl, hea, hes⟩ := hf.2.1; have HEC := Lib.hid hea; have HEA := Lib.hid hes; obtain ⟨i', hrd⟩ := hf.2.2; have HR4 := Lib.hid hrd; have HD4 := Lib.hid ((HDD3.out).grown hf.1 (by have := HR3.out; omega)); clear hf hea hes hrd)))
  have KD : D1 w4 #[(.int .u8 3), (.bool true), (.bool true), (.int .i64 0), (.int .i64 0)] 119 (w4.alloc (.cells #[(.int .u8 3), (.bool true), (.bool true), (.int .i64 0), (.int .i64 0)] 119)).drew := ⟨heap_alloc_new w4 _, below_drew (below_alloc (Below.refl _ _) _)⟩
  have K0 := D1.c5 KD
  have HKD := Lib.hid KD
  clear KD
  have hlt4 : w.heap.size < w4.heap.size := blk_lt HD4.out.1
  have hne4 : w4.heap.size ≠ w.heap.size := by omega
  have qs : (tx.size : Int) - ((tx.data.toList.length - i' : Nat) : Int) = (i' : Nat) := by
    have h1 := HR4.out.le
    have h2 : tx.data.toList.length = tx.size := by rw [Array.length_toList]; rfl
    omega
  have qs2 : IntKind.i64.wrap ((i' : Nat) : Int) = (i' : Nat) := IntWalk.i64_in _ (by have := HR4.out.le; have := HR4.out.len; omega)
  obtain ⟨L, hL⟩ : ∃ L, Hid (tx.data.toList.length - i' = L) := ⟨_, Lib.hid rfl⟩
  rw [hL.out] at qs
  go_region_held3 (fun w' => w'.cell? ⟨w4.heap.size, 0, none⟩ = some (.int .u8 3) ∧ w'.cell? ⟨w4.heap.size, 1, none⟩ = some (.bool true) ∧ w'.cell? ⟨w4.heap.size, 2, none⟩ = some (.bool true) ∧ w'.cell? ⟨w4.heap.size, 3, none⟩ = some (.int .i64 0) ∧ w'.cell? ⟨w4.heap.size, 4, none⟩ = some (.int .i64 0)) (with_reducible assumption) (first
    | (go_at_call 50; go_loud (refine (backNil_any _).mono ?_; rintro e_ w5 ⟨rfl, hw⟩; have hb : Below (w4.alloc (.cells #[(.int .u8 3), (.bool true), (.bool true), (.int .i64 0), (.int .i64 0)] 119)).drew.heap.size (w4.alloc (.cells #[(.int .u8 3), (.bool true), (.bool true), (.int .i64 0), (.int .i64 0)] 119)).drew w5 := (by rw [hw]; exact Below.refl _ _); have HK5 := Lib.hid (D1.step HKD.out hb); have K5 := D1.c5 HK5.out; have HR5 := Lib.hid (((HR4.out.alloc (.cells #[(.int .u8 3), (.bool true), (.bool true), (.int .i64 0), (.int .i64 0)] 119)).drewN 1).below hb); clear hw hb))
    | (go_at_call 55; go_loud ((with_reducible refine (HBP.out _).mono ?_); rintro e_ w6 ⟨rfl, hb⟩; have HK6 := Lib.hid (D1.step HK5.out hb); have K6 := D1.c5 HK6.out; have HR6 := Lib.hid (HR5.out.below hb); clear hb))
    | (go_at_call 44; go_loud (refine (len_any r (w.heap.size + 1) tx.data.toList i' _ HR6.out).mono ?_; rw [hL.out]; rintro e_ w7 ⟨rfl, q, hq⟩; have HK7 := Lib.hid (show D1 w4 #[(.int .u8 3), (.bool true), (.bool true), (.int .i64 0), (.int .i64 0)] 119 w7 by rw [hq]; exact D1.drewN HK6.out q); have K7 := D1.c5 HK7.out; have HEW := Lib.hid (show ∀ q0 : Nat, w7.cell? ea = some (.string es) from fun _ => (World.cell?_of_block (a := ea) ((D1.bel HK7.out).block _ (World.block_lt_of_cell? w4 ea HEC.out))).trans HEC.out); have HQ := Lib.hid hq; clear hq))
    | (go_at_call 41; go_loud (refine (word_err ea es _ (HEW.out q)).mono ?_; rintro e_ w8 ⟨rfl, hw⟩; obtain rfl : w8 = w7 := (by first | exact hw | exact hw.symm); have HZ8 := Lib.hid ((D1.bel HK7.out).block _ hlt4 |>.trans HD4.out.1); obtain ⟨k0, k1, k2, k3, k4⟩ := laid5 HZ8.out; obtain ⟨g0, g1, g2, g3, g4⟩ := open5 HZ8.out; have KZ := laid5 ((cells_set5 (x := w8) hne4 (.int .i64 3) (.bool true) (.bool true) (.int .i64 0) (.int .i64 0)).trans HK7.out.1))))
  all_goals
    refine (by assumption : ∀ (a : Act) (w : World), Code.wp _ _ _ a w → _) _ _ ?_
    have HW8 := Lib.hid (show Below w.heap.size w w8 from below_then (D1.bel HD4.out) (D1.bel HD4.out).size (D1.bel HK7.out))
    have HF := Lib.hid (And.intro (set5 HZ8.out (.int .i64 3) (.bool true) (.bool true) (.int .i64 0) (.int .i64 0)) (HW8.out.trans (set5_any (W := w8) (b := w.heap.size) (.int .i64 3) (.bool true) (.bool true) (.int .i64 0) (.int .i64 0))))
    clear k0 k1 k2 k3 k4 g0 g1 g2 g3 g4 KZ
    go_wp2
    generalize (((((w8.setCell ⟨w.heap.size, 0, none⟩ (.int .i64 3)).setCell ⟨w.heap.size, 1, none⟩ (.bool true)).setCell ⟨w.heap.size, 2, none⟩ (.bool true)).setCell ⟨w.heap.size, 3, none⟩ (.int .i64 0)).setCell ⟨w.heap.size, 4, none⟩ (.int .i64 0)) = X at HF ⊢
    obtain ⟨c0, c1, c2, c3, c4⟩ := laid5 HF.out.1
    exact bodyPost_ret (v := .tuple #[.slice none 0 0, .int .i64 0, .agg #[(.int .i64 3), (.bool true), (.bool true), (.int .i64 0), (.int .i64 0)], .int .i64 (i' : Nat), .string es]) (by simp [results, Tryz.results23, go_sem, c0, c1, c2, c3, c4]; try rfl) rfl ⟨i', es, rfl, HEA.out, HF.out.2⟩
end Go.Proofs.YtgdbeiadlgkedaaGreatDoor
set_option linter.unusedVariables false
set_option linter.unusedSimpArgs false
namespace Go.Proofs.YtgdbeiadlgkedaaGreatDoor
open Go.RowKit PFnWindowOne Go.Proofs.YtgdbeiadlgkedaaGreatDoorW.PrintWords
theorem eqA50 (d : Nat) (w : World) (x0 y0 : Int) (x1 y1 x2 y2 : Bool) (x3 y3 x4 y4 : Int) :
    (Op.equalIn (d + 2) 50 (.agg #[.int .i64 x0, .bool x1, .bool x2, .int .i64 x3, .int .i64 x4]) (.agg #[.int .i64 y0, .bool y1, .bool y2, .int .i64 y3, .int .i64 y4])).run Tryz.prog w = .ok (x0 == y0 && (x1 == y1 && (x2 == y2 && (x3 == y3 && (x4 == y4))))) w := by
  refine eqA_of Tryz.underlying50 (by kernel_rfl) ?_
  refine eqf_cons (by rfl) (by go_simp; rfl) (by go_simp; rfl) (by go_simp) ?_
  refine eqf_cons (by rfl) (by go_simp; rfl) (by go_simp; rfl) (by go_simp) ?_
  refine eqf_cons (by rfl) (by go_simp; rfl) (by go_simp; rfl) (by go_simp) ?_
  refine eqf_cons (by rfl) (by go_simp; rfl) (by go_simp; rfl) (by go_simp) ?_
  exact eqf_last (by rfl) (by go_simp; rfl) (by go_simp; rfl) (by go_simp)
attribute [local go_sem high] eqA50
theorem D1.c8 {w0 x : World} {v0 v1 v2 v3 v4 v5 v6 v7 : Value} {T : TypeId} (h : D1 w0 #[v0, v1, v2, v3, v4, v5, v6, v7] T x) : x.cell? ⟨w0.heap.size, 0, none⟩ = some v0 ∧ x.cell? ⟨w0.heap.size, 1, none⟩ = some v1 ∧ x.cell? ⟨w0.heap.size, 2, none⟩ = some v2 ∧ x.cell? ⟨w0.heap.size, 3, none⟩ = some v3 ∧ x.cell? ⟨w0.heap.size, 4, none⟩ = some v4 ∧ x.cell? ⟨w0.heap.size, 5, none⟩ = some v5 ∧ x.cell? ⟨w0.heap.size, 6, none⟩ = some v6 ∧ x.cell? ⟨w0.heap.size, 7, none⟩ = some v7 := D1.cells8 h
theorem D1.c13 {w0 w1 x : World} {v0 v1 v2 v3 v4 v5 v6 v7 u0 u1 u2 u3 u4 : Value} {T T' : TypeId} (h : D1 w0 #[v0, v1, v2, v3, v4, v5, v6, v7] T x) (h' : D1 w1 #[u0, u1, u2, u3, u4] T' x) : x.cell? ⟨w0.heap.size, 0, none⟩ = some v0 ∧ x.cell? ⟨w0.heap.size, 1, none⟩ = some v1 ∧ x.cell? ⟨w0.heap.size, 2, none⟩ = some v2 ∧ x.cell? ⟨w0.heap.size, 3, none⟩ = some v3 ∧ x.cell? ⟨w0.heap.size, 4, none⟩ = some v4 ∧ x.cell? ⟨w0.heap.size, 5, none⟩ = some v5 ∧ x.cell? ⟨w0.heap.size, 6, none⟩ = some v6 ∧ x.cell? ⟨w0.heap.size, 7, none⟩ = some v7 ∧ x.cell? ⟨w1.heap.size, 0, none⟩ = some u0 ∧ x.cell? ⟨w1.heap.size, 1, none⟩ = some u1 ∧ x.cell? ⟨w1.heap.size, 2, none⟩ = some u2 ∧ x.cell? ⟨w1.heap.size, 3, none⟩ = some u3 ∧ x.cell? ⟨w1.heap.size, 4, none⟩ = some u4 := by
  obtain ⟨a0, a1, a2, a3, a4, a5, a6, a7⟩ := D1.cells8 h
  obtain ⟨b0, b1, b2, b3, b4⟩ := laid5 h'.1
  exact ⟨a0, a1, a2, a3, a4, a5, a6, a7, b0, b1, b2, b3, b4⟩
end Go.Proofs.YtgdbeiadlgkedaaGreatDoor
