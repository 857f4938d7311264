/- Contracts and plain laws, several texts in one. -/
import Derived.Test.YtgdbeiadlgkedaaGreatDoorMWindowOne5
import Derived.Test.YtgdbeiadlgkedaaGreatDoorMWindowOne6
import Derived.Lib.EndianMore
set_option linter.unusedVariables false
set_option linter.unusedSimpArgs false
namespace Go.Proofs.YtgdbeiadlgkedaaGreatDoor
open Go.RowKit PFnWindowOne Go.Proofs.YtgdbeiadlgkedaaGreatDoorW.PrintWords Go.Proofs.YtgdbeiadlgkedaaGreatDoorW.PrintLast Go.Proofs.YtgdbeiadlgkedaaGreatDoorW.PrintMore
def toS (x : S23) : S32 := ⟨x.f0, x.f1, x.f2⟩
theorem wrap_up (i : Nat) (h : i < 1000000) : wrap64 ((i : Int) + 1) = ((i + 1 : Nat) : Int) := by unfold wrap64; omega
theorem rd23_at (l : List S23) (i : Nat) (h : i < l.length) : rd_T23 l (i : Int) = l[i] := by unfold rd_T23; simp [List.getD_eq_getElem?_getD, h]
theorem rd32_at (l : List S32) (i : Nat) (h : i < l.length) : rd_T32 l (i : Int) = l[i] := by unfold rd_T32; simp [List.getD_eq_getElem?_getD, h]
theorem spanOf_l (l : List S23) (hl : l.length ≤ 100000) : ∀ (m i : Nat) (x3 : List S32), i + m = l.length → x3.length = i → laws_codSpanOf.l0 (m + 1) x3 l (l.length : Int) (i : Int) = some (x3 ++ (l.drop i).map toS)
  | 0, i, x3, h, _ => by
    rw [laws_codSpanOf.l0, if_neg (by omega), List.drop_eq_nil_of_le (by omega)]; simp
  | m + 1, i, x3, h, hx => by
    have hlt : i < l.length := by omega
    rw [laws_codSpanOf.l0, if_pos (by omega), if_pos (by omega), if_pos (by omega), if_pos (by omega), wrap_up i (by omega), spanOf_l l hl m (i + 1) _ (by omega) (by simp [hx]), List.drop_eq_getElem_cons hlt, rd23_at l i hlt, List.map_cons, List.append_assoc]
    rfl
theorem spanOf_f (l : List S23) (hl : l.length ≤ 100000) : laws_codSpanOf.f (l.length + 1) l = some (l.map toS) := by
  unfold laws_codSpanOf.f
  have := spanOf_l l hl l.length 0 [] (by omega) rfl
  simpa using this
def okS (x : S32) : Prop := x.f0 = false ∧ -9223372036854775 ≤ x.f1 ∧ x.f2 ≤ 9223372036854775 ∧ x.f1 ≤ x.f2
theorem spansAre_l (l : List S32) (hl : l.length ≤ 1000) : ∀ (m i : Nat), i + m = l.length → ∃ b, spec_CodSpansAre.l0 (m + 1) l (l.length : Int) (i : Int) = some b ∧ (b = true → ∀ j (h : j < l.length), i ≤ j → okS l[j])
  | 0, i, h => by
    rw [spec_CodSpansAre.l0, if_neg (by omega)]
    exact ⟨true, rfl, fun _ j hj hij => by omega⟩
  | m + 1, i, h => by
    have hlt : i < l.length := by omega
    rw [spec_CodSpansAre.l0, if_pos (by omega), if_pos (by omega), if_pos (by omega), rd32_at l i hlt]
    by_cases c0 : l[i].f0 = true
    · rw [if_pos c0]; exact ⟨false, rfl, fun h => by cases h⟩
    rw [if_neg c0]
    by_cases c1 : l[i].f1 < -9223372036854775
    · rw [if_pos c1]; exact ⟨false, rfl, fun h => by cases h⟩
    rw [if_neg c1]
    by_cases c2 : l[i].f2 > 9223372036854775
    · rw [if_pos c2]; exact ⟨false, rfl, fun h => by cases h⟩
    rw [if_neg c2]
    by_cases c3 : l[i].f2 < l[i].f1
    · rw [if_pos c3]; exact ⟨false, rfl, fun h => by cases h⟩
    rw [if_neg c3, wrap_up i (by omega)]
    obtain ⟨b, hb, hg⟩ := spansAre_l l hl m (i + 1) (by omega)
    refine ⟨b, hb, fun hbt j hj hij => ?_⟩
    by_cases e : j = i
    · subst e; exact ⟨by simpa using c0, by omega, by omega, by omega⟩
    · exact hg hbt j hj (by omega)
theorem spansAre_f (l : List S32) : ∃ b, spec_CodSpansAre.f (l.length + 1) l = some b ∧ (b = true → l.length ≤ 20 ∧ ∀ x ∈ l, okS x) := by
  unfold spec_CodSpansAre.f
  by_cases h : (l.length : Int) > 20
  · rw [if_pos h]; exact ⟨false, rfl, fun h => by cases h⟩
  · rw [if_neg h]
    obtain ⟨b, hb, hg⟩ := spansAre_l l (by omega) l.length 0 (by omega)
    refine ⟨b, hb, fun hbt => ⟨by omega, fun x hx => ?_⟩⟩
    obtain ⟨j, hj, rfl⟩ := List.getElem_of_mem hx
    exact hg hbt j hj (Nat.zero_le _)
theorem few_f (l : List S23) : ∃ b, laws_codSpanFew.f (l.length + 1) l = some b ∧ (b = true → l.length ≤ 20 ∧ ∀ x ∈ l, okS (toS x)) := by
  unfold laws_codSpanFew.f
  by_cases h : (l.length : Int) ≤ 20
  · rw [if_pos h, spanOf_f l (by omega)]
    obtain ⟨b, hb, hg⟩ := spansAre_f (l.map toS)
    rw [List.length_map] at hb hg
    refine ⟨b, by simp [hb], fun hbt => ⟨by omega, fun x hx => (hg hbt).2 _ (List.mem_map_of_mem hx)⟩⟩
  · rw [if_neg h]; exact ⟨false, rfl, fun h => by cases h⟩
theorem be8 (v : Nat) (h : v < 18446744073709551616) : Lib.beNat (Lib.beBytes 8 v) = v := Lib.beNat_beBytes 8 v (by rw [show (256 : Nat) ^ 8 = 18446744073709551616 by decide]; exact h)
theorem time_back (n : Int) (h : -9223372036854775808 ≤ n ∧ n ≤ 9223372036854775807) : wrap64 (wrap64 (((n + 9223372036854775808).toNat : Nat) : Int) + -9223372036854775808) = n := by unfold wrap64; omega
theorem take_pre {n : Nat} {a b : List UInt8} (h : a.length = n) : (a ++ b).take n = a := by rw [List.take_append_of_le_length (by omega), List.take_of_length_le (by omega)]
theorem drop_pre {n : Nat} {a b : List UInt8} (h : a.length = n) : (a ++ b).drop n = b := by rw [List.drop_append_of_le_length (by omega), List.drop_of_length_le (by omega), List.nil_append]
theorem win_read (s e : Int) (rest l : List UInt8) (i : Nat) (hs : -9223372036854775 ≤ s) (he : e ≤ 9223372036854775) (hse : s ≤ e) (hd : l.drop i = wbytes s e ++ rest) :
    i + 8 ≤ l.length ∧ wrap64 (wrap64 (Lib.beNat ((l.drop i).take 8) : Nat) + -9223372036854775808) = e ∧ vrd 0 0 (l.drop (i + 8)) = some (u64of (e - s), (Lib.uvarint (u64of (e - s))).length) ∧ nrm (wrap64 (e - wrap64 ((u64of (e - s) : Nat) : Int))) = s := by
  have h8 := Lib.beBytes_length 8 (e + 9223372036854775808).toNat
  have hw : wbytes s e ++ rest = Lib.beBytes 8 (e + 9223372036854775808).toNat ++ (Lib.uvarint (u64of (e - s)) ++ rest) := by unfold wbytes; rw [List.append_assoc]
  rw [hw] at hd
  refine ⟨?_, ?_, ?_, ?_⟩
  · have := congrArg List.length hd
    rw [List.length_drop, List.length_append, h8] at this
    omega
  · rw [hd, take_pre h8, be8 _ (by omega), time_back e (by omega)]
  · rw [← List.drop_drop, hd, drop_pre h8]
    exact vrd_uv rest (u64of_lt _)
  · have h1 : wrap64 ((u64of (e - s) : Nat) : Int) = e - s := by unfold wrap64 u64of; omega
    have h2 : wrap64 (e - (e - s)) = s := by unfold wrap64; omega
    rw [h1, h2, nrm_in hs (by omega)]
theorem eqA23 (d : Nat) (w : World) (x0 y0 : Bool) (x1 y1 : Int) (x2 y2 : Int) :
    (Op.equalIn (d + 2) 23 (.agg #[.bool x0, .int .i64 x1, .int .i64 x2]) (.agg #[.bool y0, .int .i64 y1, .int .i64 y2])).run Tryz.prog w = .ok (x0 == y0 && (x1 == y1 && (x2 == y2))) w := by
  refine eqA_of Tryz.underlying23 (by kernel_rfl) ?_
  refine eqf_cons (by rfl) (by go_simp; rfl) (by go_simp; rfl) (by go_simp) ?_
  refine eqf_cons (by rfl) (by go_simp; rfl) (by go_simp; rfl) (by go_simp) ?_
  exact eqf_last (by rfl) (by go_simp; rfl) (by go_simp; rfl) (by go_simp)
end Go.Proofs.YtgdbeiadlgkedaaGreatDoor
set_option linter.unusedVariables false
set_option linter.unusedSimpArgs false
namespace Go.Proofs.YtgdbeiadlgkedaaGreatDoor
open Go.RowKit PFnWindowOne Go.Proofs.YtgdbeiadlgkedaaGreatDoorW.PrintWords Go.Proofs.YtgdbeiadlgkedaaGreatDoorW.PrintLast Go.Proofs.YtgdbeiadlgkedaaGreatDoorW.PrintMore
theorem D1.alloc {w x : World} {cs : Array Value} {T : TypeId} (h : D1 w cs T x) (o : Obj) : D1 w cs T (x.alloc o) := h.step ((Below.refl _ _).alloc (Nat.le_refl _) o)
theorem spanOf_one (s e : Int) (g : Nat) (W : World) (h : W.heap[g]? = some (.cells #[.bool false, .int .i64 s, .int .i64 e] 23 (0, 0))) :
    Calls Tryz.prog 15 #[.slice (some ⟨g, 0, none⟩) 1 1] W fun x w' => ∃ (ad : Addr) (c : Nat), x = .returned (.slice (some ad) 1 c) ∧ w'.cell? ad = some (.bool false) ∧ w'.cell? ⟨ad.block, ad.off + 1, none⟩ = some (.int .i64 s) ∧ w'.cell? ⟨ad.block, ad.off + 2, none⟩ = some (.int .i64 e) ∧ 1 ≤ c ∧ Below W.heap.size W w' := by
  have hc := laws_codSpanOf.calls 2 _ 1 _ _ W (C_one23 false s e h) (Nat.le_refl _) (spanOf_f [(⟨false, s, e⟩ : S23)] (show 1 ≤ 100000 by decide))
  rw [List.length_singleton] at hc
  refine hc.mono ?_
  rintro x w' ⟨v, rfl, hR, hb⟩
  obtain ⟨A, c, rfl⟩ := Kd.R_slice hR
  obtain ⟨_, h1, h2⟩ := Kd.R_reads' hR
  obtain ⟨ad, rfl, x0, x1, x2⟩ := at_T32 h2 0 (by decide) (show (0 : Int) < ((1 : Nat) : Int) by decide)
  have e0 : ad.add (Int.toNat 0 * 3) = ad := by show ad.add 0 = ad; rfl
  rw [e0] at x0 x1 x2
  exact ⟨ad, c, rfl, x0, x1, x2, h1, hb⟩
attribute [local go_sem high] eqA23
set_option maxHeartbeats 8000000 in
set_option maxRecDepth 100000 in
theorem one_ok (pe pl : Addr) (s e : Int) (rest : ByteArray) (w : World) (he : Env w.heap.size pe pl w) (hs : -9223372036854775 ≤ s) (hx : e ≤ 9223372036854775) (hse : s ≤ e) (hf : laws_codSpanFew.f 2 [(⟨false, s, e⟩ : S23)] = some true) (hrest : rest.size ≤ 50) :
    Calls Tryz.prog 3 #[.agg #[.bool false, .int .i64 s, .int .i64 e], .string rest] w fun x w' => x = .returned (.bool true) ∧ Below w.heap.size w w' := by
  have hr := heap_alloc_new (w.alloc (.cells #[.bool false, .int .i64 s, .int .i64 e] 23)) (.cells #[.bool false, .int .i64 s, .int .i64 e] 23)
  rw [World.size_alloc] at hr
  have hi := laws_codSpanFew.calls 2 _ 1 _ true _ (C_one23 false s e hr) (Nat.le_refl _) hf
  rw [List.length_singleton] at hi
  have HI := Lib.hid hi
  have HX := Lib.hid (blk_alloc (heap_alloc_new w (.cells #[.bool false, .int .i64 s, .int .i64 e] 23)) (.cells #[.bool false, .int .i64 s, .int .i64 e] 23))
  have HB := Lib.hid (below_alloc (below_alloc (Below.refl w.heap.size w) (.cells #[.bool false, .int .i64 s, .int .i64 e] 23)) (.cells #[.bool false, .int .i64 s, .int .i64 e] 23))
  have HE := Lib.hid he
  have HS := Lib.hid (show (-9223372036854775808 ≤ s ∧ s ≤ 9223372036854775807) ∧ (-9223372036854775808 ≤ e ∧ e ≤ 9223372036854775807) by omega)
  obtain ⟨S1, hS1⟩ : ∃ S1 : ByteArray, S1 = ⟨(wbytes s e).toArray⟩ := ⟨_, rfl⟩
  have hl1 : S1.data.toList = wbytes s e := by rw [hS1]
  have hz : S1.size = (wbytes s e).length := by rw [← hl1, Array.length_toList]; rfl
  have hz18 : S1.size ≤ 18 := by rw [hz]; exact wbytes_len s e
  obtain ⟨TT, hTT⟩ : ∃ TT, TT = S1 ++ rest := ⟨_, rfl⟩
  have hlT : TT.data.toList = wbytes s e ++ rest.data.toList := by rw [hTT, ByteArray.data_append, Array.toList_append, hl1]
  have hadd := add_strZ S1 rest (by omega) (by omega)
  rw [← hTT] at hadd
  have hzT : TT.size ≤ 100 := by rw [hTT, ByteArray.size_append]; omega
  obtain ⟨r1, r2, r3, r4⟩ := win_read s e rest.data.toList TT.data.toList 0 hs hx hse (by rw [List.drop_zero]; exact hlT)
  have hn : 0 + 8 + (Lib.uvarint (u64of (e - s))).length = S1.size := by rw [hz]; unfold wbytes; rw [List.length_append, Lib.beBytes_length]
  have HD := Lib.hid (fun (W : World) (h1 : Env w.heap.size pe pl W) (h2 : w.heap.size ≤ W.heap.size) => decOne_1 w.heap.size pe pl TT W (by omega) h1 h2 r1 e r2 _ _ _ r3 hn)
  rw [r4] at HD
  have HD0 := Lib.hid (fun (W : World) (h1 : Env w.heap.size pe pl W) (h2 : w.heap.size ≤ W.heap.size) => decOne_0 w.heap.size pe pl rest W (by omega) h1 h2)
  have HEN := Lib.hid (fun (W : World) => encOne_1 s e W HS.out.1 HS.out.2)
  have HSC := Lib.hid (fun (W : World) => spanCoded_1 false s e W HS.out.1 HS.out.2)
  rw [← hS1] at HEN HSC
  have HSO := Lib.hid (fun (W : World) (g : Nat) (h : W.heap[g]? = some (.cells #[.bool false, .int .i64 s, .int .i64 e] 23 (0, 0))) => spanOf_one s e g W h)
  have hz2 : (rest.size : Int) ≤ 50 := by omega
  clear hr hi he hs hx hse hf hrest hS1 hl1 hz hz18 hTT hlT hzT r1 r2 r3 r4 hn
  go_enter Tryz.func3, Tryz.ntmps3
  go_wp2_with (first
    | (go_at_call 10; go_loud ((with_reducible refine HI.out.mono ?_); rintro e_ w1 ⟨rfl, hb⟩; have HK1 := Lib.hid (show D1 w #[.bool false, .int .i64 s, .int .i64 e] 23 w1 from ⟨blk_below HX.out hb, below_then HB.out HB.out.size hb⟩); have K1 := HK1.out.cells3; clear hb))
    | (go_at_call 12; ((with_reducible refine (HEN.out _).mono ?_); rintro e_ w2 ⟨rfl, hb⟩; have HK2 := Lib.hid (HK1.out.step hb); clear K1; clear hb))
    | (go_at_call 12; ((with_reducible refine (encOne_0 s e _).mono ?_); rintro e_ w7 ⟨rfl, hb⟩; have HK7 := Lib.hid (HK6.out.step hb); clear K6; clear z0 z1 z2; clear hb))
    | (go_at_call 13; ((with_reducible refine (HD0.out _ ?g1 ?g2).mono ?_); (case g1 => exact HE.out.below HK7.out.2); (case g2 => exact HK7.out.2.size); rintro e_ w8 ⟨rfl, hb⟩; have HK8 := Lib.hid ((HK7.out.step hb).alloc (.cells #[.bool true, .int .i64 0, .int .i64 0] 23)); have HX8 := Lib.hid (heap_alloc_new w8 (.cells #[.bool true, .int .i64 0, .int .i64 0] 23)); clear hb))
    | (go_at_call 11; ((with_reducible refine (awake_any w.heap.size pe pl _ ?g1 ?g2).mono ?_); (case g1 => exact HE.out.below HK8.out.2); (case g2 => exact HK8.out.2.size); rintro e_ w9 ⟨rfl, hb⟩; have HK9 := Lib.hid (HK8.out.step hb); have c9 : w9.cell? ⟨w8.heap.size, 0, none⟩ = some (.bool true) := (blk_cell (blk_below HX8.out hb) 0).trans rfl; clear hb))
    | (go_at_call 14; go_loud ((with_reducible refine (HSC.out _).mono ?_); rintro e_ w6 ⟨rfl, hb⟩; have HK6 := Lib.hid (HK5.out.step hb); have K6 := HK6.out.cells3; have HX7b := Lib.hid (blk_below HX7.out hb); have z0 : w6.cell? ⟨w3.heap.size, 0, none⟩ = some (.bool false) := (blk_cell HX7b.out 0).trans rfl; have z1 : w6.cell? ⟨w3.heap.size, 1, none⟩ = some (.int .i64 s) := (blk_cell HX7b.out 1).trans rfl; have z2 : w6.cell? ⟨w3.heap.size, 2, none⟩ = some (.int .i64 e) := (blk_cell HX7b.out 2).trans rfl; clear x0 x1 x2 hc1 hb))
    | (go_at_call 13; ((with_reducible refine (HD.out _ ?g1 ?g2).mono ?_); (case g1 => exact HE.out.below HK2.out.2); (case g2 => exact HK2.out.2.size); rintro e_ w3 ⟨rfl, hb⟩; have HK3 := Lib.hid (HK2.out.step hb); have y0 := fun o => (HK3.out.alloc o).cells3.1; have y1 := fun o => (HK3.out.alloc o).cells3.2.1; have y2 := fun o => (HK3.out.alloc o).cells3.2.2.1; clear hb))
    | (go_at_call 15; go_loud ((with_reducible refine (HSO.out _ _ ?g1).mono ?_); (case g1 => have := heap_alloc_new (w3.alloc (.cells #[.bool false, .int .i64 s, .int .i64 e] 23)) (.cells #[.bool false, .int .i64 s, .int .i64 e] 23); rwa [World.size_alloc] at this); rintro e_ w5 ⟨ad, c, rfl, x0, x1, x2, hc1, hb⟩; have HK5 := Lib.hid (((HK3.out.alloc _).alloc _).step hb); have HX7 := Lib.hid (blk_below (blk_alloc (heap_alloc_new w3 (.cells #[.bool false, .int .i64 s, .int .i64 e] 23)) (.cells #[.bool false, .int .i64 s, .int .i64 e] 23)) hb); clear y0 y1 y2 hb)))
  go_ret
  exact ⟨rfl, HK9.out.2⟩
end Go.Proofs.YtgdbeiadlgkedaaGreatDoor
set_option linter.unusedVariables false
set_option linter.unusedSimpArgs false
namespace Go.Proofs.YtgdbeiadlgkedaaGreatDoor
open Go.RowKit PFnWindowOne Go.Proofs.YtgdbeiadlgkedaaGreatDoorW.PrintWords Go.Proofs.YtgdbeiadlgkedaaGreatDoorW.PrintLast Go.Proofs.YtgdbeiadlgkedaaGreatDoorW.PrintMore
set_option maxHeartbeats 8000000 in
set_option maxRecDepth 100000 in
theorem one_not (pe pl : Addr) (g : Bool) (s e : Int) (rest : ByteArray) (w : World) (he : Env w.heap.size pe pl w) (b : Bool) (hf : laws_codSpanFew.f 2 [(⟨g, s, e⟩ : S23)] = some b) (hl : ¬ 2147483647 < rest.size) (hrest : b = false ∨ 50 < rest.size) :
    Calls Tryz.prog 3 #[.agg #[.bool g, .int .i64 s, .int .i64 e], .string rest] w fun x w' => x = .returned (.bool true) ∧ Below w.heap.size w w' := by
  have hr := heap_alloc_new (w.alloc (.cells #[.bool g, .int .i64 s, .int .i64 e] 23)) (.cells #[.bool g, .int .i64 s, .int .i64 e] 23)
  rw [World.size_alloc] at hr
  have hi := laws_codSpanFew.calls 2 _ 1 _ b _ (C_one23 g s e hr) (Nat.le_refl _) hf
  rw [List.length_singleton] at hi
  have HI := Lib.hid hi
  have HB := Lib.hid (below_alloc (below_alloc (Below.refl w.heap.size w) (.cells #[.bool g, .int .i64 s, .int .i64 e] 23)) (.cells #[.bool g, .int .i64 s, .int .i64 e] 23))
  have HE := Lib.hid he
  have hl2 : ¬ 2147483647 < (rest.size : Int) := by omega
  cases b with
  | false =>
    clear hr hi he hf hl hrest
    go_enter Tryz.func3, Tryz.ntmps3
    go_wp2_with (first
      | (go_at_call 10; go_loud ((with_reducible refine HI.out.mono ?_); rintro e_ w1 ⟨rfl, hb⟩; have HB1 := Lib.hid (below_then HB.out HB.out.size hb); clear hb))
      | (go_at_call 11; ((with_reducible refine (awake_any w.heap.size pe pl _ ?g1 ?g2).mono ?_); (case g1 => exact HE.out.below HB1.out); (case g2 => exact HB1.out.size); rintro e_ w9 ⟨rfl, hb⟩; have HB9 := Lib.hid (below_then HB1.out HB1.out.size hb); clear hb)))
    all_goals
      go_ret
      exact ⟨rfl, HB9.out⟩
  | true =>
    have hr2 : 50 < (rest.size : Int) := by rcases hrest with h | h; cases h; omega
    clear hr hi he hf hl hrest
    go_enter Tryz.func3, Tryz.ntmps3
    go_wp2_with (first
      | (go_at_call 10; go_loud ((with_reducible refine HI.out.mono ?_); rintro e_ w1 ⟨rfl, hb⟩; have HB1 := Lib.hid (below_then HB.out HB.out.size hb); clear hb))
      | (go_at_call 11; ((with_reducible refine (awake_any w.heap.size pe pl _ ?g1 ?g2).mono ?_); (case g1 => exact HE.out.below HB1.out); (case g2 => exact HB1.out.size); rintro e_ w9 ⟨rfl, hb⟩; have HB9 := Lib.hid (below_then HB1.out HB1.out.size hb); clear hb)))
    all_goals
      go_ret
      exact ⟨rfl, HB9.out⟩
set_option maxHeartbeats 8000000 in
set_option maxRecDepth 100000 in
theorem one_long (g : Bool) (s e : Int) (rest : ByteArray) (w : World) (hl : 2147483647 < rest.size) :
    Calls Tryz.prog 3 #[.agg #[.bool g, .int .i64 s, .int .i64 e], .string rest] w fun x w' => x = .returned (.bool true) ∧ Below w.heap.size w w' := by
  have hl2 : 2147483647 < (rest.size : Int) := by omega
  have HB := Lib.hid (below_alloc (Below.refl w.heap.size w) (.cells #[.bool g, .int .i64 s, .int .i64 e] 23))
  clear hl
  go_enter Tryz.func3, Tryz.ntmps3
  go_wp2
  go_ret
  exact ⟨rfl, HB.out⟩
theorem one_row (pe pl : Addr) (g : Bool) (s e : Int) (rest : ByteArray) (w : World) (he : Env w.heap.size pe pl w) :
    Calls Tryz.prog 3 #[.agg #[.bool g, .int .i64 s, .int .i64 e], .string rest] w fun x w' => x = .returned (.bool true) ∧ Below w.heap.size w w' := by
  by_cases hl : 2147483647 < rest.size
  · exact one_long g s e rest w hl
  obtain ⟨b, hf, hg⟩ := few_f [(⟨g, s, e⟩ : S23)]
  by_cases hb : b = true ∧ ¬ 50 < rest.size
  · obtain ⟨rfl, hr⟩ := hb
    obtain ⟨h0, h1, h2, h3⟩ := (hg rfl).2 ⟨g, s, e⟩ (by simp)
    obtain rfl : g = false := h0
    exact one_ok pe pl s e rest w he h1 h2 h3 hf (by omega)
  · refine one_not pe pl g s e rest w he b hf hl ?_
    cases b with
    | false => exact .inl rfl
    | true => right; by_cases h : 50 < rest.size; exact h; exact absurd ⟨rfl, h⟩ hb
end Go.Proofs.YtgdbeiadlgkedaaGreatDoor
