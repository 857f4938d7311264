/- Contracts and plain laws, several texts in one. -/
import Derived.Test.YtgdbeiadlgkedaaGreatDoorMHeaderBack0
import Derived.Test.YtgdbeiadlgkedaaGreatDoorMHeaderBack1
import Derived.Test.YtgdbeiadlgkedaaGreatDoorMHeaderBack2
import Derived.Test.YtgdbeiadlgkedaaGreatDoorMHeaderBack8
import Derived.Handy
import Derived.Deep.RegionHeld3
import Derived.Lib.Varint
import Derived.LoopN
import Derived.Lib.EndianMore
set_option linter.unusedVariables false
set_option linter.unusedSimpArgs false
namespace Go.Proofs.YtgdbeiadlgkedaaGreatDoor
open Go.RowKit PFnWindowOne Go.Proofs.YtgdbeiadlgkedaaGreatDoorW.PrintWords Go.Proofs.YtgdbeiadlgkedaaGreatDoorW.PrintLast Go.Proofs.YtgdbeiadlgkedaaGreatDoorW.PrintMore
def D1 (w0 : World) (cs : Array Value) (T : TypeId) (w' : World) : Prop := w'.heap[w0.heap.size]? = some (.cells cs T (0, 0)) ∧ Below w0.heap.size w0 w'
theorem D1.step {w0 x y : World} {cs : Array Value} {T : TypeId} (h : D1 w0 cs T x) (hb : Below x.heap.size x y) : D1 w0 cs T y := ⟨blk_below h.1 hb, below_then h.2 h.2.size hb⟩
theorem word_nilZ (w : World) : Calls Tryz.prog 41 #[.nilIface] w fun e w' => e = .returned (.string ⟨#[]⟩) ∧ w' = w := by
  go_enter Tryz.func41, Tryz.ntmps41
  go_wp2
  go_ret
  exact ⟨rfl, rfl⟩
end Go.Proofs.YtgdbeiadlgkedaaGreatDoor
set_option linter.unusedVariables false
set_option linter.unusedSimpArgs false
namespace Go.Proofs.YtgdbeiadlgkedaaGreatDoor
open Go.RowKit PFnWindowOne Go.Proofs.YtgdbeiadlgkedaaGreatDoorW.PrintWords Go.Proofs.YtgdbeiadlgkedaaGreatDoorW.PrintLast Go.Proofs.YtgdbeiadlgkedaaGreatDoorW.PrintMore
theorem add_strZ (s t : ByteArray) (h1 : s.size ≤ 100000) (h2 : t.size ≤ 100000) : ∀ W : World, (Op.stringOp .add s t).run Tryz.prog W = .ok (.string (s ++ t)) W := by
  intro W
  simp [Op.stringOp]
  omega
end Go.Proofs.YtgdbeiadlgkedaaGreatDoor
set_option linter.unusedVariables false
set_option linter.unusedSimpArgs false
namespace Go.Proofs.YtgdbeiadlgkedaaGreatDoor
open Go.RowKit
theorem ret_int {k : IntKind} {a b : Int} (h : a = b) : Ending.returned (.int k a) = .returned (.int k b) := by rw [h]
def mx (a b : Int) : Int := if a < b then b else a
def mn (a b : Int) : Int := if a < b then a else b
def nrm (t : Int) : Int := if t < -9223372036854775 then -9223372036854775 else if 9223372036854775 < t then 9223372036854775 else t
theorem nrm_in {t : Int} (h0 : -9223372036854775 ≤ t) (h1 : t ≤ 9223372036854775) : nrm t = t := by unfold nrm; rw [if_neg (by omega), if_neg (by omega)]
theorem nrm_mx (t : Int) : mn (mx t (-9223372036854775)) 9223372036854775 = nrm t := by
  unfold nrm mn mx
  split <;> split <;> (try split) <;> (try split) <;> omega
theorem max_any (a b : Int) (w : World) : Calls Tryz.prog 164 #[.int .i64 a, .int .i64 b] w fun e w' => e = .returned (.int .i64 (mx a b)) ∧ w = w' := by
  by_cases h : a < b
  · go_enter Tryz.func164, Tryz.ntmps164
    go_wp2
    go_ret
    exact ⟨ret_int (by unfold mx; rw [if_pos h]), rfl⟩
  · go_enter Tryz.func164, Tryz.ntmps164
    go_wp2
    go_ret
    exact ⟨ret_int (by unfold mx; rw [if_neg (by omega)]), rfl⟩
theorem min_any (a b : Int) (w : World) : Calls Tryz.prog 163 #[.int .i64 a, .int .i64 b] w fun e w' => e = .returned (.int .i64 (mn a b)) ∧ w = w' := by
  by_cases h : a < b
  · go_enter Tryz.func163, Tryz.ntmps163
    go_wp2
    go_ret
    exact ⟨ret_int (by unfold mn; rw [if_pos h]), rfl⟩
  · go_enter Tryz.func163, Tryz.ntmps163
    go_wp2
    go_ret
    exact ⟨ret_int (by unfold mn; rw [if_neg (by omega)]), rfl⟩
theorem norm_any (t : Int) (w : World) : Calls Tryz.prog 162 #[.int .i64 t] w fun e w' => e = .returned (.int .i64 (nrm t)) ∧ w = w' := by
  go_enter Tryz.func162, Tryz.ntmps162
  go_wp2_with (first | (go_at_call 164; refine (max_any _ _ _).mono ?_; rintro e w' ⟨rfl, rfl⟩) | (go_at_call 163; refine (min_any _ _ _).mono ?_; rintro e w' ⟨rfl, rfl⟩))
  go_ret
  exact ⟨ret_int (nrm_mx t), rfl⟩
theorem fromMs_any (t : Int) (w : World) : Calls Tryz.prog 161 #[.int .i64 t] w fun e w' => e = .returned (.int .i64 (nrm t)) ∧ w = w' := by
  go_enter Tryz.func161, Tryz.ntmps161
  go_wp2_with (go_at_call 162; refine (norm_any _ _).mono ?_; rintro e w' ⟨rfl, rfl⟩)
  go_ret
  exact ⟨rfl, rfl⟩
theorem decVar_okZ (B : Nat) (pe pl : Addr) (r g : Nat) (l : List UInt8) (i : Nat) (w : World) (h : Rd r g l i w) (he : Env B pe pl w) (hBr : B ≤ r) (v k : Nat) (hR : vrd 0 0 (l.drop i) = some (v, k)) :
    Calls Tryz.prog 92 #[rdI r] w fun e w' => e = .returned (.tuple #[.int .u64 (v : Nat), .nilIface]) ∧ w.grownBy w' (some r) ∧ Rd r g l (i + k) w' :=
  (decVar_any B pe pl r g l i w h he hBr _ hR).mono fun e w' ⟨hg, hh⟩ => by
    rcases hh with ⟨v', k', e1, e2, e3⟩ | ⟨e1, _⟩
    · cases e1; exact ⟨e2, hg, e3⟩
    · cases e1
set_option maxHeartbeats 4000000 in
set_option maxRecDepth 100000 in
theorem decSingle_ok (B : Nat) (pe pl : Addr) (a : Option Addr) (r g : Nat) (l : List UInt8) (i : Nat) (w : World) (h : Rd r g l i w) (he : Env B pe pl w) (hBr : B ≤ r) (hB : B ≤ w.heap.size) (hi : i + 8 ≤ l.length) (T : Int) (hT : wrap64 (wrap64 (Lib.beNat ((l.drop i).take 8) : Nat) + -9223372036854775808) = T) (v k : Nat) (hv : vrd 0 0 (l.drop (i + 8)) = some (v, k)) :
    Calls Tryz.prog 160 #[.pointer a, rdI r] w fun x w' => x = .returned (.tuple #[winI (nrm (wrap64 (T - wrap64 (v : Nat)))) T, .nilIface]) ∧ w.grownBy w' (some r) ∧ Rd r g l (i + 8 + k) w' := by
  have hC := decTime_ok r g l i w h hi
  rw [hT] at hC
  have HC := Lib.hid hC
  have HV := Lib.hid hv
  have HE := Lib.hid (And.intro he (And.intro hBr hB))
  obtain ⟨D, hD⟩ : ∃ D, Hid (wrap64 (v : Int) = D) := ⟨_, Lib.hid rfl⟩
  obtain ⟨S, hS⟩ : ∃ S, Hid (wrap64 (T - D) = S) := ⟨_, Lib.hid rfl⟩
  have q1 : wrap64 (v : Int) = D := hD.out
  have q2 : IntKind.i64.wrap (v : Int) = D := (IntWalk.i64_left _).trans hD.out
  have q3 : wrap64 (T - D) = S := hS.out
  have q4 : IntKind.i64.wrap (T - D) = S := (IntWalk.i64_left _).trans hS.out
  rw [q1, q3]
  clear h he hBr hB hi hT hC hv
  go_enter Tryz.func160, Tryz.ntmps160
  go_wp2_with (first
    | (go_at_call 83; go_loud (refine HC.out.mono ?_; rintro e_ w1 ⟨rfl, hg, hr⟩; have H1 := Lib.hid (And.intro hg hr); clear hg hr))
    | (go_at_call 92; go_loud (refine (decVar_okZ B pe pl r g l (i + 8) w1 H1.out.2 (HE.out.1.below (grown_below H1.out.1 HE.out.2.2 HE.out.2.1)) HE.out.2.1 v k HV.out).mono ?_; rintro e_ w2 ⟨rfl, hg, hr⟩; have H2 := Lib.hid (And.intro (grown_trans H1.out.1 hg) hr); clear hg hr))
    | (go_at_call 103; refine (millis_any _ _).mono ?_; rintro e_ w3 ⟨rfl, rfl⟩)
    | (go_at_call 161; refine (fromMs_any _ _).mono ?_; rintro e_ w3 ⟨rfl, rfl⟩))
  go_ret2
  exact ⟨rfl, H2.out.1, H2.out.2⟩
end Go.Proofs.YtgdbeiadlgkedaaGreatDoor
set_option linter.unusedVariables false
set_option linter.unusedSimpArgs false
namespace Go.Proofs.YtgdbeiadlgkedaaGreatDoor
open Go.RowKit
set_option maxHeartbeats 4000000 in
set_option maxRecDepth 100000 in
theorem backWin_1 (s e : Int) (w : World) : Calls Tryz.prog 45 #[winI s e] w fun x w' => x = .returned (.agg #[.bool false, .int .i64 s, .int .i64 e]) ∧ Below w.heap.size w w' := by
  have ta := taT s e
  go_enter Tryz.func45, Tryz.ntmps45
  go_wp2
  have hz := blk_alloc' (o' := .cells #[.int .i64 s, .int .i64 e] 194 (0, 0)) (heap_alloc_new w (.cells #[.bool false, .int .i64 s, .int .i64 e] 23))
  have HB := Lib.hid (show Below w.heap.size w ((w.alloc (.cells #[.bool false, .int .i64 s, .int .i64 e] 23)).alloc (.cells #[.int .i64 s, .int .i64 e] 194)) from ((Below.refl _ w).alloc (Nat.le_refl _) _).alloc (by rw [World.size_alloc]; omega) _)
  generalize (w.alloc (.cells #[.bool false, .int .i64 s, .int .i64 e] 23)).alloc (.cells #[.int .i64 s, .int .i64 e] 194) = X at hz HB ⊢
  have c0 : X.cell? ⟨w.heap.size, 0, none⟩ = some (.bool false) := (blk_cell hz 0).trans rfl
  have c1 : X.cell? ⟨w.heap.size, 1, none⟩ = some (.int .i64 s) := (blk_cell hz 1).trans rfl
  have c2 : X.cell? ⟨w.heap.size, 2, none⟩ = some (.int .i64 e) := (blk_cell hz 2).trans rfl
  exact bodyPost_ret (v := .agg #[.bool false, .int .i64 s, .int .i64 e]) (by simp [results, Tryz.results45, go_sem, c0, c1, c2]; try rfl) rfl ⟨rfl, HB.out⟩
set_option maxHeartbeats 4000000 in
set_option maxRecDepth 100000 in
theorem backWin_0 (w : World) : Calls Tryz.prog 45 #[.iface 192 (.agg #[])] w fun x w' => x = .returned (.agg #[.bool true, .int .i64 0, .int .i64 0]) ∧ Below w.heap.size w w' := by
  have ta := taG
  go_enter Tryz.func45, Tryz.ntmps45
  go_wp2
  have hz := blk_alloc' (o' := .cells #[.int .i64 0, .int .i64 0] 194 (0, 0)) (heap_alloc_new w (.cells #[.bool true, .int .i64 0, .int .i64 0] 23))
  have HB := Lib.hid (show Below w.heap.size w ((w.alloc (.cells #[.bool true, .int .i64 0, .int .i64 0] 23)).alloc (.cells #[.int .i64 0, .int .i64 0] 194)) from ((Below.refl _ w).alloc (Nat.le_refl _) _).alloc (by rw [World.size_alloc]; omega) _)
  generalize (w.alloc (.cells #[.bool true, .int .i64 0, .int .i64 0] 23)).alloc (.cells #[.int .i64 0, .int .i64 0] 194) = X at hz HB ⊢
  have c0 : X.cell? ⟨w.heap.size, 0, none⟩ = some (.bool true) := (blk_cell hz 0).trans rfl
  have c1 : X.cell? ⟨w.heap.size, 1, none⟩ = some (.int .i64 0) := (blk_cell hz 1).trans rfl
  have c2 : X.cell? ⟨w.heap.size, 2, none⟩ = some (.int .i64 0) := (blk_cell hz 2).trans rfl
  exact bodyPost_ret (v := .agg #[.bool true, .int .i64 0, .int .i64 0]) (by simp [results, Tryz.results45, go_sem, c0, c1, c2]; try rfl) rfl ⟨rfl, HB.out⟩
end Go.Proofs.YtgdbeiadlgkedaaGreatDoor
set_option linter.unusedVariables false
set_option linter.unusedSimpArgs false
namespace Go.Proofs.YtgdbeiadlgkedaaGreatDoor
open Go.RowKit
theorem D1.grown {w x y : World} {cs : Array Value} {T : TypeId} {r : Nat} (h : D1 w cs T x) (hg : x.grownBy y (some r)) (hr : w.heap.size < r) : D1 w cs T y :=
  ⟨(hg.block _ (blk_lt h.1) (by intro e; cases e; omega)).trans h.1, h.2.trans (grown_below hg h.2.size (by omega))⟩
theorem D1.drewN {w x : World} {cs : Array Value} {T : TypeId} (h : D1 w cs T x) (n : Nat) : D1 w cs T (x.drewN n) := ⟨h.1, below_drewN h.2 n⟩
end Go.Proofs.YtgdbeiadlgkedaaGreatDoor
set_option linter.unusedVariables false
set_option linter.unusedSimpArgs false
namespace Go.Proofs.YtgdbeiadlgkedaaGreatDoor
open Go.RowKit PFnWindowOne Go.Proofs.YtgdbeiadlgkedaaGreatDoorW.PrintWords Go.Proofs.YtgdbeiadlgkedaaGreatDoorW.PrintLast Go.Proofs.YtgdbeiadlgkedaaGreatDoorW.PrintMore
def toS (x : S23) : S32 := ⟨x.f0, x.f1, x.f2⟩
theorem wrap_up (i : Nat) (h : i < 1000000) : wrap64 ((i : Int) + 1) = ((i + 1 : Nat) : Int) := by unfold wrap64; omega
theorem rd23_at (l : List S23) (i : Nat) (h : i < l.length) : rd_T23 l (i : Int) = l[i] := by unfold rd_T23; simp [List.getD_eq_getElem?_getD, h]
theorem rd32_at (l : List S32) (i : Nat) (h : i < l.length) : rd_T32 l (i : Int) = l[i] := by unfold rd_T32; simp [List.getD_eq_getElem?_getD, h]
theorem spanOf_l (l : List S23) (hl : l.length ≤ 100000) : ∀ (m i : Nat) (x3 : List S32), i + m = l.length → x3.length = i → laws_codSpanOf.l0 (m + 1) x3 l (l.length : Int) (i : Int) = some (x3 ++ (l.drop i).map toS)
  | 0, i, x3, h, _ => by
    rw [laws_codSpanOf.l0, if_neg (by omega), List.drop_eq_nil_of_le (by omega)]; simp
  | m + 1, i, x3, h, hx => by
    have hlt : i < l.length := by omega
    rw [laws_codSpanOf.l0, if_pos (by omega), if_pos (by omega), if_pos (by omega), if_pos (by omega), wrap_up i (by omega), spanOf_l l hl m (i + 1) _ (by omega) (by simp [hx]), List.drop_eq_getElem_cons hlt, rd23_at l i hlt, List.map_cons, List.append_assoc]
    rfl
theorem spanOf_f (l : List S23) (hl : l.length ≤ 100000) : laws_codSpanOf.f (l.length + 1) l = some (l.map toS) := by
  unfold laws_codSpanOf.f
  have := spanOf_l l hl l.length 0 [] (by omega) rfl
  simpa using this
def okS (x : S32) : Prop := x.f0 = false ∧ -9223372036854775 ≤ x.f1 ∧ x.f2 ≤ 9223372036854775 ∧ x.f1 ≤ x.f2
theorem spansAre_l (l : List S32) (hl : l.length ≤ 1000) : ∀ (m i : Nat), i + m = l.length → ∃ b, spec_CodSpansAre.l0 (m + 1) l (l.length : Int) (i : Int) = some b ∧ (b = true → ∀ j (h : j < l.length), i ≤ j → okS l[j])
  | 0, i, h => by
    rw [spec_CodSpansAre.l0, if_neg (by omega)]
    exact ⟨true, rfl, fun _ j hj hij => by omega⟩
  | m + 1, i, h => by
    have hlt : i < l.length := by omega
    rw [spec_CodSpansAre.l0, if_pos (by omega), if_pos (by omega), if_pos (by omega), rd32_at l i hlt]
    by_cases c0 : l[i].f0 = true
    · rw [if_pos c0]; exact ⟨false, rfl, fun h => by cases h⟩
    rw [if_neg c0]
    by_cases c1 : l[i].f1 < -9223372036854775
    · rw [if_pos c1]; exact ⟨false, rfl, fun h => by cases h⟩
    rw [if_neg c1]
    by_cases c2 : l[i].f2 > 9223372036854775
    · rw [if_pos c2]; exact ⟨false, rfl, fun h => by cases h⟩
    rw [if_neg c2]
    by_cases c3 : l[i].f2 < l[i].f1
    · rw [if_pos c3]; exact ⟨false, rfl, fun h => by cases h⟩
    rw [if_neg c3, wrap_up i (by omega)]
    obtain ⟨b, hb, hg⟩ := spansAre_l l hl m (i + 1) (by omega)
    refine ⟨b, hb, fun hbt j hj hij => ?_⟩
    by_cases e : j = i
    · subst e; exact ⟨by simpa using c0, by omega, by omega, by omega⟩
    · exact hg hbt j hj (by omega)
theorem spansAre_f (l : List S32) : ∃ b, spec_CodSpansAre.f (l.length + 1) l = some b ∧ (b = true → l.length ≤ 20 ∧ ∀ x ∈ l, okS x) := by
  unfold spec_CodSpansAre.f
  by_cases h : (l.length : Int) > 20
  · rw [if_pos h]; exact ⟨false, rfl, fun h => by cases h⟩
  · rw [if_neg h]
    obtain ⟨b, hb, hg⟩ := spansAre_l l (by omega) l.length 0 (by omega)
    refine ⟨b, hb, fun hbt => ⟨by omega, fun x hx => ?_⟩⟩
    obtain ⟨j, hj, rfl⟩ := List.getElem_of_mem hx
    exact hg hbt j hj (Nat.zero_le _)
theorem few_f (l : List S23) : ∃ b, laws_codSpanFew.f (l.length + 1) l = some b ∧ (b = true → l.length ≤ 20 ∧ ∀ x ∈ l, okS (toS x)) := by
  unfold laws_codSpanFew.f
  by_cases h : (l.length : Int) ≤ 20
  · rw [if_pos h, spanOf_f l (by omega)]
    obtain ⟨b, hb, hg⟩ := spansAre_f (l.map toS)
    rw [List.length_map] at hb hg
    refine ⟨b, by simp [hb], fun hbt => ⟨by omega, fun x hx => (hg hbt).2 _ (List.mem_map_of_mem hx)⟩⟩
  · rw [if_neg h]; exact ⟨false, rfl, fun h => by cases h⟩
theorem be8 (v : Nat) (h : v < 18446744073709551616) : Lib.beNat (Lib.beBytes 8 v) = v := Lib.beNat_beBytes 8 v (by rw [show (256 : Nat) ^ 8 = 18446744073709551616 by decide]; exact h)
theorem be4 (v : Nat) (h : v < 4294967296) : Lib.beNat (Lib.beBytes 4 v) = v := Lib.beNat_beBytes 4 v (by rw [show (256 : Nat) ^ 4 = 4294967296 by decide]; exact h)
theorem time_back (n : Int) (h : -9223372036854775808 ≤ n ∧ n ≤ 9223372036854775807) : wrap64 (wrap64 (((n + 9223372036854775808).toNat : Nat) : Int) + -9223372036854775808) = n := by unfold wrap64; omega
theorem take_pre {n : Nat} {a b : List UInt8} (h : a.length = n) : (a ++ b).take n = a := by rw [List.take_append_of_le_length (by omega), List.take_of_length_le (by omega)]
theorem drop_pre {n : Nat} {a b : List UInt8} (h : a.length = n) : (a ++ b).drop n = b := by rw [List.drop_append_of_le_length (by omega), List.drop_of_length_le (by omega), List.nil_append]
theorem win_read (s e : Int) (rest l : List UInt8) (i : Nat) (hs : -9223372036854775 ≤ s) (he : e ≤ 9223372036854775) (hse : s ≤ e) (hd : l.drop i = wbytes s e ++ rest) :
    i + 8 ≤ l.length ∧ wrap64 (wrap64 (Lib.beNat ((l.drop i).take 8) : Nat) + -9223372036854775808) = e ∧ vrd 0 0 (l.drop (i + 8)) = some (u64of (e - s), (Lib.uvarint (u64of (e - s))).length) ∧ nrm (wrap64 (e - wrap64 ((u64of (e - s) : Nat) : Int))) = s := by
  have h8 := Lib.beBytes_length 8 (e + 9223372036854775808).toNat
  have hw : wbytes s e ++ rest = Lib.beBytes 8 (e + 9223372036854775808).toNat ++ (Lib.uvarint (u64of (e - s)) ++ rest) := by unfold wbytes; rw [List.append_assoc]
  rw [hw] at hd
  refine ⟨?_, ?_, ?_, ?_⟩
  · have := congrArg List.length hd
    rw [List.length_drop, List.length_append, h8] at this
    omega
  · rw [hd, take_pre h8, be8 _ (by omega), time_back e (by omega)]
  · rw [← List.drop_drop, hd, drop_pre h8]
    exact vrd_uv rest (u64of_lt _)
  · have h1 : wrap64 ((u64of (e - s) : Nat) : Int) = e - s := by unfold wrap64 u64of; omega
    have h2 : wrap64 (e - (e - s)) = s := by unfold wrap64; omega
    rw [h1, h2, nrm_in hs (by omega)]
end Go.Proofs.YtgdbeiadlgkedaaGreatDoor
set_option linter.unusedVariables false
set_option linter.unusedSimpArgs false
namespace Go.Proofs.YtgdbeiadlgkedaaGreatDoor
open Go.RowKit PFnWindowOne Go.Proofs.YtgdbeiadlgkedaaGreatDoorW.PrintWords
def ifv (x : S23) : Value := if x.f0 then .iface 192 (.agg #[]) else .iface 194 (.agg #[.int .i64 x.f1, .int .i64 x.f2])
theorem ifv_one (x : S23) : (ifv x).oneCell' = true := by unfold ifv; split <;> rfl
theorem ifv_iface (x : S23) : ∃ t v, ifv x = .iface t v := by unfold ifv; split <;> exact ⟨_, _, rfl⟩
def kIf : Kd S23 := Kd.scalar ifv ifv_one
def rdN (xs : List S23) (i : Nat) : S23 := xs.getD i z23
theorem rdN_at (l : List S23) (i : Nat) (h : i < l.length) : rdN l i = l[i] := by unfold rdN; simp [List.getD_eq_getElem?_getD, h]
theorem atN {w : World} {A : Option Addr} {n : Nat} {xs : List S23} (h : Kd.C k23 w A n xs) (i : Nat) (h1 : i < n) : ∃ ad, A = some ad ∧ w.cell? (ad.add (i * 3)) = some (.bool (rdN xs i).f0) ∧ w.cell? ⟨(ad.add (i * 3)).block, (ad.add (i * 3)).off + 1, none⟩ = some (.int .i64 (rdN xs i).f1) ∧ w.cell? ⟨(ad.add (i * 3)).block, (ad.add (i * 3)).off + 2, none⟩ = some (.int .i64 (rdN xs i).f2) := by
  obtain ⟨ad, e, h0, h1, h2⟩ := at_T23 h (i : Int) (by omega) (by omega)
  exact ⟨ad, e, h0, h1, h2⟩
theorem atIf {w : World} {A : Option Addr} {n : Nat} {xs : List S23} (h : Kd.C kIf w A n xs) (i : Nat) (h1 : i < n) : ∃ ad, A = some ad ∧ w.cell? (ad.add i) = some (ifv (rdN xs i)) := by
  obtain ⟨ad, c, e, _, hK, hc0⟩ := Kd.C_get h z23 (i : Int) (by omega) (by omega)
  have hc : ∀ j u, c[j]? = some u → w.cell? (ad.add (i * 1 + j)) = some u := hc0
  obtain rfl : c = [ifv (rdN xs i)] := hK
  exact ⟨ad, e, by have := hc 0 _ rfl; simpa using this⟩
theorem take_succ (l : List S23) (k : Nat) (h : k < l.length) : l.take (k + 1) = l.take k ++ [rdN l k] := by
  rw [List.take_succ_eq_append_getElem h, rdN_at l k h]
theorem info23 : (Tryz.prog.info? 23).map (fun i => (i.zero, i.size, i.bytes)) = some (some (.agg #[(.bool false), (.int .i64 0), (.int .i64 0)]), 3, 24) := by kernel_rfl
theorem info88 : (Tryz.prog.info? 88).map (fun i => (i.zero, i.size, i.bytes)) = some (some .nilIface, 1, 16) := by kernel_rfl
theorem win_any (x : S23) (w : World) : Calls Tryz.prog 40 #[.agg #[.bool x.f0, .int .i64 x.f1, .int .i64 x.f2]] w fun e w' => e = .returned (ifv x) ∧ Below w.heap.size w w' := by
  obtain ⟨g, s, e⟩ := x
  cases g
  · go_enter Tryz.func40, Tryz.ntmps40
    go_wp2
    go_ret
    exact ⟨rfl, by repeat (first | exact Below.refl _ _ | apply below_alloc | apply below_drew | refine below_set ?_ (by simp) | (refine Below.setCell ?_ (by simp) _))⟩
  · go_enter Tryz.func40, Tryz.ntmps40
    go_wp2
    go_ret
    exact ⟨rfl, by repeat (first | exact Below.refl _ _ | apply below_alloc | apply below_drew | refine below_set ?_ (by simp) | (refine Below.setCell ?_ (by simp) _))⟩
def nz (x : S23) : S23 := if x.f0 then ⟨true, 0, 0⟩ else x
theorem backWin_any (x : S23) (w : World) : Calls Tryz.prog 45 #[ifv x] w fun e w' => e = .returned (.agg #[.bool (nz x).f0, .int .i64 (nz x).f1, .int .i64 (nz x).f2]) ∧ Below w.heap.size w w' := by
  obtain ⟨g, s, e⟩ := x
  cases g
  · exact backWin_1 s e w
  · exact backWin_0 w
set_option maxHeartbeats 1000000 in
set_option maxRecDepth 100000 in
theorem wins_any (A0 : Option Addr) (c0 : Nat) (l : List S23) (w : World) (hr0 : Kd.C k23 w A0 l.length l) (hc0 : l.length ≤ c0) (hl : l.length * 24 ≤ 140737488351232) :
    Calls Tryz.prog 48 #[.slice A0 l.length c0] w fun e w' => ∃ v : Value, e = .returned v ∧ Kd.R kIf 88 w' w.heap.size (fun _ => True) v l ∧ Below w.heap.size w w' := by
  have HR0 := Aside0.mk hr0
  have HC0 := Aside0.mk hc0
  clear hr0 hc0
  have HB := Aside0.mk (Below.refl w.heap.size w)
  go_enter Tryz.func48, Tryz.ntmps48
  go_wp2
  go_loopg [3, 8] l.length (fun kq v3 v8 w' => ∃ k : Nat, k ≤ l.length ∧ Aside0 (kq = l.length - k) ∧ v8 = .int .i64 k ∧ Aside0 (Kd.R kIf 88 w' w.heap.size (fun _ => True) v3 (l.take k)) ∧ Aside0 (Below w.heap.size w w'))
  case atStart => exact ⟨0, Nat.zero_le _, ⟨by simp⟩, rfl, ⟨Kd.R_nil _ _ _ _ _⟩, HB⟩
  case round =>
    clear HB
    obtain ⟨k, hk, hq, rfl, HO, HB⟩ := hrel
    by_cases hlt : k < l.length
    · obtain ⟨ad, e104, hx0, hx1, hx2⟩ := atN HR0.out k hlt
      cases e104
      replace hx0 := (HB.out.cell (World.block_lt_of_cell? w _ hx0)).trans hx0
      replace hx1 := (HB.out.cell (World.block_lt_of_cell? w _ hx1)).trans hx1
      replace hx2 := (HB.out.cell (World.block_lt_of_cell? w _ hx2)).trans hx2
      have hts := Aside0.mk (take_succ l k hlt)
      have htl := Aside0.mk (List.length_take_of_le hk)
      go_wp2_with (first | ((with_reducible refine gate_dst (N := 5) rfl ?_); refine box_event ?hg (N := 5) ?hd (cs := #[.bool false, .int .i64 0, .int .i64 0]) (t := 23) ?hr ?_; (case hd => rfl); (case hg => rfl); (case hr => first | (go_simp; done) | (go_simp; rfl)); intro gb hg w6 hbox hb; have n0_ := Aside0.mk (Kd.R_below (by (with_reducible repeat (first | apply Kd.R_alloc | apply Kd.R_drewN | apply Kd.R_drew)); exact HO.out) hb); have n1_ := Aside0.mk (below_step (by repeat (first | (with_reducible first | exact HB.out | apply below_alloc | apply pw_below_drewN | apply below_drew1) | exact HB.out)) hb); have BK := Aside0.mk (hbox); have GE := Aside0.mk ((by rw [hg]; exact (below_size (by repeat (first | (with_reducible first | exact HB.out | apply below_alloc | apply pw_below_drewN | apply below_drew1) | exact HB.out)))) : w.heap.size ≤ gb); clear HO; have HO := n0_; clear n0_; clear HB; have HB := n1_; clear n1_; clear hb hbox hg; have hcz_0 : w6.cell? ⟨gb, 0, none⟩ = some (.bool false) := (blk_cell BK.out 0).trans rfl; have hfz_0 := blk_frozen BK.out 0; have hcz_1 : w6.cell? ⟨gb, 1, none⟩ = some (.int .i64 0) := (blk_cell BK.out 1).trans rfl; have hfz_1 := blk_frozen BK.out 1; have hcz_2 : w6.cell? ⟨gb, 2, none⟩ = some (.int .i64 0) := (blk_cell BK.out 2).trans rfl; have hfz_2 := blk_frozen BK.out 2) | (go_at_call 40; (with_reducible refine (win_any (rdN l k) _).mono ?_); rintro e w7 ⟨rfl, hb7⟩; obtain ⟨t_, v_, hv_⟩ := ifv_iface (rdN l k); rw [hv_]; have HV := Aside0.mk hv_; clear hv_; have n1_ := Aside0.mk (below_then (by repeat (first | (with_reducible first | exact HB.out | apply below_alloc | apply pw_below_drewN | apply below_drew1 | refine below_set ?_ GE.out) | exact HB.out)) (below_size (by repeat (first | (with_reducible first | exact HB.out | apply below_alloc | apply pw_below_drewN | apply below_drew1 | refine below_set ?_ GE.out) | exact HB.out))) hb7); have n2_ := Aside0.mk (Kd.R_below (by (with_reducible repeat (first | apply Kd.R_alloc | apply Kd.R_drewN | apply Kd.R_drew)); exact Kd.R_mono (Kd.R_far (p := ⟨gb, 2, none⟩) (Kd.R_far (p := ⟨gb, 1, none⟩) (Kd.R_far (p := ⟨gb, 0, none⟩) (Kd.R_types HO.out BK.out (by decide)) (fun _ hk => hk.2) (.bool (rdN l k).f0)) (fun _ hk => hk.2) (.int .i64 (rdN l k).f1)) (fun _ hk => hk.2) (.int .i64 (rdN l k).f2)) (fun _ hk => trivial)) hb7); clear BK HB HO hb7; have HB := n1_; have HO := n2_; clear n1_ n2_) | ((with_reducible refine gate_builtin (b := .append) (xs := #[.tmp 12, .tmp 15]) rfl ?_); at_builtin; refine Kd.R_append kIf (w0 := w) w.heap.size rfl (.tmp 12) (.tmp 15) 107 88 .nilIface 16 rfl Tryz.underlying107 info88 rfl (by decide) (by omega) u3 (l.take k) (rdN l k) [.iface t_ v_] (fun _ => True) (fun _ => False) rfl (by first | (go_simp; done) | (go_simp; rfl)) ?aP (fun _ hk => hk.elim) ?aF ?aO ?aB ?aS ?aL ?_; (case aP => exact (congrArg (fun z => [z]) HV.out.symm)); (case aB => exact (by repeat (first | (with_reducible first | exact HB.out | apply below_alloc | apply pw_below_drewN | apply below_drew1) | exact HB.out))); (case aF => exact (fun _ _ => trivial)); (case aO => exact (by (with_reducible repeat (first | apply Kd.R_alloc | apply Kd.R_drewN | apply Kd.R_drew)); exact HO.out)); (case aS => exact (below_size (by repeat (first | (with_reducible first | exact HB.out | apply below_alloc | apply pw_below_drewN | apply below_drew1) | exact HB.out)))); (case aL => have := htl.out; omega); intro v107 w8 ho hb hg hat; rw [← hts.out] at ho; have n1_ := Aside0.mk (hb); have n2_ := Aside0.mk (ho); clear HB; clear HO; have HB := n1_; have HO := n2_; clear n1_ n2_; clear ho hb hg hat))
      go_roundg (l.length - (k + 1))
      case measure => have := hq.out; omega
      case rel => exact ⟨k + 1, by omega, ⟨rfl⟩, by go_num, HO, HB⟩
    · have hkl : Aside0 (k = l.length) := ⟨by omega⟩
      go_wp2
      go_ret
      have HO' := HO.out
      rw [hkl.out, List.take_length] at HO'
      exact ⟨_, rfl, HO', HB.out⟩
theorem take_map_nz (l : List S23) (k : Nat) (h : k < l.length) : (l.take (k + 1)).map nz = (l.take k).map nz ++ [nz (rdN l k)] := by rw [take_succ l k h]; simp
set_option maxHeartbeats 1000000 in
set_option maxRecDepth 100000 in
theorem backWins_any (A0 : Option Addr) (c0 : Nat) (l : List S23) (w : World) (hr0 : Kd.C kIf w A0 l.length l) (hc0 : l.length ≤ c0) (hl : l.length * 24 ≤ 140737488351232) :
    Calls Tryz.prog 50 #[.slice A0 l.length c0] w fun e w' => ∃ v : Value, e = .returned v ∧ Kd.R k23 23 w' w.heap.size (fun _ => True) v (l.map nz) ∧ Below w.heap.size w w' := by
  have HR0 := Aside0.mk hr0
  have HC0 := Aside0.mk hc0
  clear hr0 hc0
  have HB := Aside0.mk (Below.refl w.heap.size w)
  go_enter Tryz.func50, Tryz.ntmps50
  go_wp2
  go_loopg [3, 8] l.length (fun kq v3 v8 w' => ∃ k : Nat, k ≤ l.length ∧ Aside0 (kq = l.length - k) ∧ v8 = .int .i64 k ∧ Aside0 (Kd.R k23 23 w' w.heap.size (fun _ => True) v3 ((l.take k).map nz)) ∧ Aside0 (Below w.heap.size w w'))
  case atStart => exact ⟨0, Nat.zero_le _, ⟨by simp⟩, rfl, ⟨Kd.R_nil _ _ _ _ _⟩, HB⟩
  case round =>
    clear HB
    obtain ⟨k, hk, hq, rfl, HO, HB⟩ := hrel
    by_cases hlt : k < l.length
    · obtain ⟨ad, e104, hx0⟩ := atIf HR0.out k hlt
      cases e104
      replace hx0 := (HB.out.cell (World.block_lt_of_cell? w _ hx0)).trans hx0
      have hts := Aside0.mk (take_map_nz l k hlt)
      have htl := Aside0.mk (show ((l.take k).map nz).length = k by rw [List.length_map, List.length_take_of_le hk])
      go_wp2_with (first | (go_at_call 45; (with_reducible refine (backWin_any (rdN l k) _).mono ?_); rintro e w7 ⟨rfl, hb7⟩; have n1_ := Aside0.mk (below_then (by repeat (first | (with_reducible first | exact HB.out | apply below_alloc | apply pw_below_drewN | apply below_drew1) | exact HB.out)) (below_size (by repeat (first | (with_reducible first | exact HB.out | apply below_alloc | apply pw_below_drewN | apply below_drew1) | exact HB.out))) hb7); have n2_ := Aside0.mk (Kd.R_below (by (with_reducible repeat (first | apply Kd.R_alloc | apply Kd.R_drewN | apply Kd.R_drew)); exact HO.out) hb7); clear HB HO hb7; have HB := n1_; have HO := n2_; clear n1_ n2_) | ((with_reducible refine gate_builtin (b := .append) (xs := #[.tmp 12, .tmp 15]) rfl ?_); at_builtin; refine Kd.R_append k23 (w0 := w) w.heap.size rfl (.tmp 12) (.tmp 15) 25 23 (.agg #[(.bool false), (.int .i64 0), (.int .i64 0)]) 24 rfl Tryz.underlying25 info23 rfl (by decide) (by omega) u3 ((l.take k).map nz) (nz (rdN l k)) [.bool (nz (rdN l k)).f0, .int .i64 (nz (rdN l k)).f1, .int .i64 (nz (rdN l k)).f2] (fun _ => True) (fun _ => False) rfl (by first | (go_simp; done) | (go_simp; rfl)) ?aP (fun _ hk => hk.elim) ?aF ?aO ?aB ?aS ?aL ?_; (case aP => exact k23_mkM _ _ _ _); (case aB => exact (by repeat (first | (with_reducible first | exact HB.out | apply below_alloc | apply pw_below_drewN | apply below_drew1) | exact HB.out))); (case aF => exact (fun _ _ => trivial)); (case aO => exact (by (with_reducible repeat (first | apply Kd.R_alloc | apply Kd.R_drewN | apply Kd.R_drew)); exact HO.out)); (case aS => exact (below_size (by repeat (first | (with_reducible first | exact HB.out | apply below_alloc | apply pw_below_drewN | apply below_drew1) | exact HB.out)))); (case aL => have := htl.out; omega); intro v107 w8 ho hb hg hat; rw [← hts.out] at ho; have n1_ := Aside0.mk (hb); have n2_ := Aside0.mk (ho); clear HB; clear HO; have HB := n1_; have HO := n2_; clear n1_ n2_; clear ho hb hg hat))
      go_roundg (l.length - (k + 1))
      case measure => have := hq.out; omega
      case rel => exact ⟨k + 1, by omega, ⟨rfl⟩, by go_num, HO, HB⟩
    · have hkl : Aside0 (k = l.length) := ⟨by omega⟩
      go_wp2
      go_ret
      have HO' := HO.out
      rw [hkl.out, List.take_length] at HO'
      exact ⟨_, rfl, HO', HB.out⟩
section
variable {P : Program} {ops : Array Oper} {rest : List Oper} {o : Oper} {a : Act} {Q : Exit → Act → World → Prop}
end
theorem below_none {W w1 : World} (h : W.grownBy w1 none) : Below W.heap.size W w1 := ⟨h.os, h.tape, h.output, h.size, fun i hi => h.block i hi (by simp)⟩
end Go.Proofs.YtgdbeiadlgkedaaGreatDoor
set_option linter.unusedVariables false
set_option linter.unusedSimpArgs false
namespace Go.Proofs.YtgdbeiadlgkedaaGreatDoor
open Go.RowKit PFnWindowOne Go.Proofs.YtgdbeiadlgkedaaGreatDoorW.PrintWords
def winsB (l : List S23) : List UInt8 := l.flatMap fun x => wbytes x.f1 x.f2
theorem winsB_len : ∀ l : List S23, (winsB l).length ≤ 18 * l.length
  | [] => by simp [winsB]
  | x :: l => by
    have h1 := winsB_len l
    have h2 := wbytes_len x.f1 x.f2
    unfold winsB at h1 ⊢
    rw [List.flatMap_cons, List.length_append, List.length_cons]
    omega
theorem winsB_snoc (l : List S23) (k : Nat) (h : k < l.length) : winsB (l.take (k + 1)) = winsB (l.take k) ++ wbytes (rdN l k).f1 (rdN l k).f2 := by
  rw [take_succ l k h]; simp [winsB]
theorem R_others {w w' : World} {base b : Nat} {v : Value} {l : List S23} (h : Kd.R kIf 88 w base (fun _ => True) v l) (hk : Lib.OthersKept 5 (some b) w w') (hb : b < base) : Kd.R kIf 88 w' base (fun _ => True) v l :=
  Kd.R_mono (Kd.R_move (Kd.R_bound h) (fun k hk1 => by
    obtain ⟨_, h1, h2, q, hq, cells, hc⟩ := hk1
    have hq' : q = 88 := by simpa [kIf, Kd.scalar] using hq
    subst hq'
    exact (hk k _ hc (by intro e; cases e; omega) (by intro c fz e; cases e)).trans hc.symm)) (fun _ _ => trivial)
theorem others_trans {t : Nat} {g : Option Nat} {w w1 w2 : World} (h : Lib.OthersKept t g w w1) (k : Lib.OthersKept t g w1 w2) : Lib.OthersKept t g w w2 :=
  fun i o hi hg ho => k i o (h i o hi hg ho) hg ho
theorem ifv_win {x : S23} (h : x.f0 = false) : ifv x = winI x.f1 x.f2 := by unfold ifv; rw [h]; rfl
set_option maxHeartbeats 4000000 in
set_option maxRecDepth 100000 in
theorem encAll_1 (B b base : Nat) (a : Option Addr) (l : List S23) (hok : ∀ x ∈ l, okS (toS x)) (hl : l.length ≤ 20) (A : Option Addr) (c : Nat) (pre : List UInt8) (w : World) (h : Bf B b pre w) (hB : B ≤ w.heap.size) (hb : b < base) (hR : Kd.R kIf 88 w base (fun _ => True) (.slice A l.length c) l) (hlim : pre.length + 400 ≤ 140737488355328) :
    Calls Tryz.prog 148 #[.pointer a, .slice A l.length c, bfI b] w fun x w' => x = .returned .nilIface ∧ Bf B b (pre ++ Lib.beBytes 4 l.length ++ winsB l) w' ∧ Below B w w' ∧ Lib.OthersKept 5 (some b) w w' := by
  have hC := encI32_k B b (l.length : Int) pre w h (by omega)
  have e1 : ((l.length : Int) % 4294967296).toNat = l.length := by omega
  rw [e1] at hC
  have HC := Lib.hid hC
  have HR := Lib.hid hR
  have HK := Lib.hid (And.intro hB (And.intro hb (And.intro hlim hl)))
  have HOK := Lib.hid hok
  have q1 : IntKind.i32.wrap (l.length : Int) = (l.length : Int) := by rw [IntKind.wrap_i32]; omega
  have q2 : wrap32 (l.length : Int) = (l.length : Int) := by unfold wrap32; omega
  clear h hB hb hR hlim hC e1 hok
  go_enter Tryz.func148, Tryz.ntmps148
  go_wp2_with (go_at_call 69; go_loud (refine HC.out.mono ?_; rintro e_ w1 ⟨rfl, h1, h2, h3⟩; have H0 := Lib.hid (And.intro h1 (And.intro h2 h3)); clear h1 h2 h3))
  have H1 : Hid (Bf B b (pre ++ Lib.beBytes 4 l.length ++ winsB (l.take 0)) w1 ∧ Below B w w1 ∧ Lib.OthersKept 5 (some b) w w1) := Lib.hid (by have := H0.out; rwa [show winsB (l.take 0) = [] from rfl, List.append_nil])
  clear H0 q1 q2 HC
  go_loopg [21] l.length (fun kq v21 w' => ∃ k : Nat, k ≤ l.length ∧ Aside0 (kq = l.length - k) ∧ v21 = .int .i64 k ∧ Hid (Bf B b (pre ++ Lib.beBytes 4 l.length ++ winsB (l.take k)) w' ∧ Below B w w' ∧ Lib.OthersKept 5 (some b) w w'))
  case atStart => exact ⟨0, Nat.zero_le _, ⟨by simp⟩, rfl, H1⟩
  case round =>
    clear H1
    obtain ⟨k, hk, hq, rfl, H1⟩ := hrel
    by_cases hlt : k < l.length
    · have HR1 := Lib.hid (R_others HR.out H1.out.2.2 HK.out.2.1)
      obtain ⟨ad, e104, hx0⟩ := atIf (Kd.R_reads' HR1.out).2.2 k hlt
      cases e104
      have hmem : rdN l k ∈ l := by rw [rdN_at l k hlt]; exact List.getElem_mem hlt
      have hgood := HOK.out _ hmem
      rw [ifv_win hgood.1] at hx0
      have HS := Lib.hid (encSingle_1 B b a (rdN l k).f1 (rdN l k).f2 _ _ (by have := hgood.2; simp only [toS] at this; omega) (by have := hgood.2; simp only [toS] at this; omega) H1.out.1 (Nat.le_trans HK.out.1 H1.out.2.1.size) (by have h1 := winsB_len (l.take k); have h2 := HK.out.2.2; rw [List.length_take] at h1; rw [List.length_append, List.length_append, Lib.beBytes_length]; omega))
      have HN := Lib.hid (winsB_snoc l k hlt)
      clear hgood hmem
      go_wp2_with (go_at_call 149; go_loud (refine HS.out.mono ?_; rintro e_ w2 ⟨rfl, h1, h2, h3⟩; rw [List.append_assoc, ← HN.out] at h1; have H2 := Lib.hid (And.intro h1 (And.intro (H1.out.2.1.trans h2) (others_trans H1.out.2.2 h3))); clear h1 h2 h3))
      go_roundg (l.length - (k + 1))
      case measure => have := hq.out; omega
      case rel => exact ⟨k + 1, by omega, ⟨rfl⟩, by go_num, H2⟩
    · have hkl : k = l.length := by omega
      subst hkl
      go_wp2
      go_ret
      have := H1.out
      rw [List.take_length] at this
      exact ⟨rfl, this⟩
theorem encAll_0 (B b : Nat) (a : Option Addr) (v : Value) (pre : List UInt8) (w : World) (h : Bf B b pre w) (hlim : pre.length + 400 ≤ 140737488355328) :
    Calls Tryz.prog 146 #[.pointer a, v, bfI b] w fun x w' => x = .returned .nilIface ∧ Bf B b (pre ++ [0, 0, 0, 1]) w' ∧ Below B w w' ∧ Lib.OthersKept 5 (some b) w w' := by
  have hC := encI32_k B b 1 pre w h (by omega)
  rw [show Lib.beBytes 4 ((1 : Int) % 4294967296).toNat = [0, 0, 0, 1] by decide] at hC
  have HC := Lib.hid hC
  clear h hC hlim
  go_enter Tryz.func146, Tryz.ntmps146
  go_wp2_with (go_at_call 69; go_loud (refine HC.out.mono ?_; rintro e_ w1 ⟨rfl, h1⟩; have H0 := Lib.hid h1; clear h1))
  go_ret
  exact ⟨rfl, H0.out⟩
end Go.Proofs.YtgdbeiadlgkedaaGreatDoor
set_option linter.unusedVariables false
set_option linter.unusedSimpArgs false
namespace Go.Proofs.YtgdbeiadlgkedaaGreatDoor
open Go.RowKit PFnWindowOne Go.Proofs.YtgdbeiadlgkedaaGreatDoorW.PrintWords
theorem int1_l (l : List S23) (hl : l.length ≤ 1000) (hok : ∀ x ∈ l, x.f0 = false) : ∀ (m i : Nat), i + m = l.length → impl_intervals.l0 (m + 1) 1 l (l.length : Int) (i : Int) = some true
  | 0, i, h => by rw [impl_intervals.l0, if_neg (by omega)]
  | m + 1, i, h => by
    have hlt : i < l.length := by omega
    have hx := hok _ (List.getElem_mem hlt)
    rw [impl_intervals.l0, if_pos (by omega), if_pos (by omega), if_pos (by omega), if_pos rfl, rd23_at l i hlt, if_neg (by rw [hx]; decide), wrap_up i (by omega), int1_l l hl hok m (i + 1) (by omega)]
theorem int0_l (l : List S23) (hl : l.length ≤ 1000) : ∀ (m i : Nat), i + m = l.length → impl_intervals.l0 (m + 1) 0 l (l.length : Int) (i : Int) = some true
  | 0, i, h => by rw [impl_intervals.l0, if_neg (by omega)]
  | m + 1, i, h => by
    have hlt : i < l.length := by omega
    rw [impl_intervals.l0, if_pos (by omega), if_pos (by omega), if_pos (by omega), if_neg (by decide), wrap_up i (by omega), int0_l l hl m (i + 1) (by omega)]
theorem ints1 (l : List S23) (hl : l.length ≤ 1000) (hok : ∀ x ∈ l, okS (toS x)) : impl_intervals.f (l.length + 1) 1 l = some true := int1_l l hl (fun x hx => (hok x hx).1) l.length 0 (by omega)
theorem ints0 (l : List S23) (hl : l.length ≤ 1000) : impl_intervals.f (l.length + 1) 0 l = some true := int0_l l hl l.length 0 (by omega)
theorem buf_next {w w2 : World} {o o2 : Obj} (h : w2 = (w.alloc o).drew.alloc o2) : w2.heap[w.heap.size + 1]? = some o2 := by
  have h1 := heap_alloc_new (w.alloc o).drew o2
  rw [show (w.alloc o).drew.heap.size = w.heap.size + 1 from World.size_alloc ..] at h1
  rw [h]; exact h1
theorem C_move {w w1 : World} {A : Option Addr} {n : Nat} {l : List S23} (h : Kd.C k23 w A n l) (hb : Below w.heap.size w w1) : Kd.C k23 w1 A n l := Kd.C_below h hb
end Go.Proofs.YtgdbeiadlgkedaaGreatDoor
