/- Contracts and plain laws, several texts in one. -/
import Derived.Test.YtgdbeiadlgkedaaGreatDoorMWindowsBack0
import Derived.Test.YtgdbeiadlgkedaaGreatDoorMWindowsBack1
import Derived.Test.YtgdbeiadlgkedaaGreatDoorMWindowsBack4
import Derived.Test.YtgdbeiadlgkedaaGreatDoorMWindowsBack6
import Derived.Handy
import Derived.Deep.RegionHeld3
import Derived.Lib.Varint
import Derived.LoopN
import Derived.Lib.EndianMore
set_option linter.unusedVariables false
set_option linter.unusedSimpArgs false
namespace Go.Proofs.YtgdbeiadlgkedaaGreatDoor
open Go.RowKit PFnWindowOne Go.Proofs.YtgdbeiadlgkedaaGreatDoorW.PrintWords Go.Proofs.YtgdbeiadlgkedaaGreatDoorW.PrintLast Go.Proofs.YtgdbeiadlgkedaaGreatDoorW.PrintMore
def D1 (w0 : World) (cs : Array Value) (T : TypeId) (w' : World) : Prop := w'.heap[w0.heap.size]? = some (.cells cs T (0, 0)) ∧ Below w0.heap.size w0 w'
theorem D1.step {w0 x y : World} {cs : Array Value} {T : TypeId} (h : D1 w0 cs T x) (hb : Below x.heap.size x y) : D1 w0 cs T y := ⟨blk_below h.1 hb, below_then h.2 h.2.size hb⟩
theorem word_nilZ (w : World) : Calls Tryz.prog 41 #[.nilIface] w fun e w' => e = .returned (.string ⟨#[]⟩) ∧ w' = w := by
  go_enter Tryz.func41, Tryz.ntmps41
  go_wp2
  go_ret
  exact ⟨rfl, rfl⟩
end Go.Proofs.YtgdbeiadlgkedaaGreatDoor
set_option linter.unusedVariables false
set_option linter.unusedSimpArgs false
namespace Go.Proofs.YtgdbeiadlgkedaaGreatDoor
open Go.RowKit PFnWindowOne Go.Proofs.YtgdbeiadlgkedaaGreatDoorW.PrintWords Go.Proofs.YtgdbeiadlgkedaaGreatDoorW.PrintLast Go.Proofs.YtgdbeiadlgkedaaGreatDoorW.PrintMore
theorem add_strZ (s t : ByteArray) (h1 : s.size ≤ 100000) (h2 : t.size ≤ 100000) : ∀ W : World, (Op.stringOp .add s t).run Tryz.prog W = .ok (.string (s ++ t)) W := by
  intro W
  simp [Op.stringOp]
  omega
end Go.Proofs.YtgdbeiadlgkedaaGreatDoor
set_option linter.unusedVariables false
set_option linter.unusedSimpArgs false
namespace Go.Proofs.YtgdbeiadlgkedaaGreatDoor
open Go.RowKit
theorem ret_int {k : IntKind} {a b : Int} (h : a = b) : Ending.returned (.int k a) = .returned (.int k b) := by rw [h]
def mx (a b : Int) : Int := if a < b then b else a
def mn (a b : Int) : Int := if a < b then a else b
def nrm (t : Int) : Int := if t < -9223372036854775 then -9223372036854775 else if 9223372036854775 < t then 9223372036854775 else t
theorem nrm_in {t : Int} (h0 : -9223372036854775 ≤ t) (h1 : t ≤ 9223372036854775) : nrm t = t := by unfold nrm; rw [if_neg (by omega), if_neg (by omega)]
theorem nrm_mx (t : Int) : mn (mx t (-9223372036854775)) 9223372036854775 = nrm t := by
  unfold nrm mn mx
  split <;> split <;> (try split) <;> (try split) <;> omega
theorem max_any (a b : Int) (w : World) : Calls Tryz.prog 164 #[.int .i64 a, .int .i64 b] w fun e w' => e = .returned (.int .i64 (mx a b)) ∧ w = w' := by
  by_cases h : a < b
  · go_enter Tryz.func164, Tryz.ntmps164
    go_wp2
    go_ret
    exact ⟨ret_int (by unfold mx; rw [if_pos h]), rfl⟩
  · go_enter Tryz.func164, Tryz.ntmps164
    go_wp2
    go_ret
    exact ⟨ret_int (by unfold mx; rw [if_neg (by omega)]), rfl⟩
theorem min_any (a b : Int) (w : World) : Calls Tryz.prog 163 #[.int .i64 a, .int .i64 b] w fun e w' => e = .returned (.int .i64 (mn a b)) ∧ w = w' := by
  by_cases h : a < b
  · go_enter Tryz.func163, Tryz.ntmps163
    go_wp2
    go_ret
    exact ⟨ret_int (by unfold mn; rw [if_pos h]), rfl⟩
  · go_enter Tryz.func163, Tryz.ntmps163
    go_wp2
    go_ret
    exact ⟨ret_int (by unfold mn; rw [if_neg (by omega)]), rfl⟩
theorem norm_any (t : Int) (w : World) : Calls Tryz.prog 162 #[.int .i64 t] w fun e w' => e = .returned (.int .i64 (nrm t)) ∧ w = w' := by
  go_enter Tryz.func162, Tryz.ntmps162
  go_wp2_with (first | (go_at_call 164; refine (max_any _ _ _).mono ?_; rintro e w' ⟨rfl, rfl⟩) | (go_at_call 163; refine (min_any _ _ _).mono ?_; rintro e w' ⟨rfl, rfl⟩))
  go_ret
  exact ⟨ret_int (nrm_mx t), rfl⟩
theorem fromMs_any (t : Int) (w : World) : Calls Tryz.prog 161 #[.int .i64 t] w fun e w' => e = .returned (.int .i64 (nrm t)) ∧ w = w' := by
  go_enter Tryz.func161, Tryz.ntmps161
  go_wp2_with (go_at_call 162; refine (norm_any _ _).mono ?_; rintro e w' ⟨rfl, rfl⟩)
  go_ret
  exact ⟨rfl, rfl⟩
theorem decVar_okZ (B : Nat) (pe pl : Addr) (r g : Nat) (l : List UInt8) (i : Nat) (w : World) (h : Rd r g l i w) (he : Env B pe pl w) (hBr : B ≤ r) (v k : Nat) (hR : vrd 0 0 (l.drop i) = some (v, k)) :
    Calls Tryz.prog 92 #[rdI r] w fun e w' => e = .returned (.tuple #[.int .u64 (v : Nat), .nilIface]) ∧ w.grownBy w' (some r) ∧ Rd r g l (i + k) w' :=
  (decVar_any B pe pl r g l i w h he hBr _ hR).mono fun e w' ⟨hg, hh⟩ => by
    rcases hh with ⟨v', k', e1, e2, e3⟩ | ⟨e1, _⟩
    · cases e1; exact ⟨e2, hg, e3⟩
    · cases e1
set_option maxHeartbeats 4000000 in
set_option maxRecDepth 100000 in
theorem decSingle_ok (B : Nat) (pe pl : Addr) (a : Option Addr) (r g : Nat) (l : List UInt8) (i : Nat) (w : World) (h : Rd r g l i w) (he : Env B pe pl w) (hBr : B ≤ r) (hB : B ≤ w.heap.size) (hi : i + 8 ≤ l.length) (T : Int) (hT : wrap64 (wrap64 (Lib.beNat ((l.drop i).take 8) : Nat) + -9223372036854775808) = T) (v k : Nat) (hv : vrd 0 0 (l.drop (i + 8)) = some (v, k)) :
    Calls Tryz.prog 160 #[.pointer a, rdI r] w fun x w' => x = .returned (.tuple #[winI (nrm (wrap64 (T - wrap64 (v : Nat)))) T, .nilIface]) ∧ w.grownBy w' (some r) ∧ Rd r g l (i + 8 + k) w' := by
  have hC := decTime_ok r g l i w h hi
  rw [hT] at hC
  have HC := Lib.hid hC
  have HV := Lib.hid hv
  have HE := Lib.hid (And.intro he (And.intro hBr hB))
  obtain ⟨D, hD⟩ : ∃ D, Hid (wrap64 (v : Int) = D) := ⟨_, Lib.hid rfl⟩
  obtain ⟨S, hS⟩ : ∃ S, Hid (wrap64 (T - D) = S) := ⟨_, Lib.hid rfl⟩
  have q1 : wrap64 (v : Int) = D := hD.out
  have q2 : IntKind.i64.wrap (v : Int) = D := (IntWalk.i64_left _).trans hD.out
  have q3 : wrap64 (T - D) = S := hS.out
  have q4 : IntKind.i64.wrap (T - D) = S := (IntWalk.i64_left _).trans hS.out
  rw [q1, q3]
  clear h he hBr hB hi hT hC hv
  go_enter Tryz.func160, Tryz.ntmps160
  go_wp2_with (first
    | (go_at_call 83; go_loud (refine HC.out.mono ?_; rintro e_ w1 ⟨rfl, hg, hr⟩; have H1 := Lib.hid (And.intro hg hr); clear hg hr))
    | (go_at_call 92; go_loud (refine (decVar_okZ B pe pl r g l (i + 8) w1 H1.out.2 (HE.out.1.below (grown_below H1.out.1 HE.out.2.2 HE.out.2.1)) HE.out.2.1 v k HV.out).mono ?_; rintro e_ w2 ⟨rfl, hg, hr⟩; have H2 := Lib.hid (And.intro (grown_trans H1.out.1 hg) hr); clear hg hr))
    | (go_at_call 103; refine (millis_any _ _).mono ?_; rintro e_ w3 ⟨rfl, rfl⟩)
    | (go_at_call 161; refine (fromMs_any _ _).mono ?_; rintro e_ w3 ⟨rfl, rfl⟩))
  go_ret2
  exact ⟨rfl, H2.out.1, H2.out.2⟩
end Go.Proofs.YtgdbeiadlgkedaaGreatDoor
set_option linter.unusedVariables false
set_option linter.unusedSimpArgs false
namespace Go.Proofs.YtgdbeiadlgkedaaGreatDoor
open Go.RowKit
set_option maxHeartbeats 4000000 in
set_option maxRecDepth 100000 in
theorem backWin_1 (s e : Int) (w : World) : Calls Tryz.prog 45 #[winI s e] w fun x w' => x = .returned (.agg #[.bool false, .int .i64 s, .int .i64 e]) ∧ Below w.heap.size w w' := by
  have ta := taT s e
  go_enter Tryz.func45, Tryz.ntmps45
  go_wp2
  have hz := blk_alloc' (o' := .cells #[.int .i64 s, .int .i64 e] 194 (0, 0)) (heap_alloc_new w (.cells #[.bool false, .int .i64 s, .int .i64 e] 23))
  have HB := Lib.hid (show Below w.heap.size w ((w.alloc (.cells #[.bool false, .int .i64 s, .int .i64 e] 23)).alloc (.cells #[.int .i64 s, .int .i64 e] 194)) from ((Below.refl _ w).alloc (Nat.le_refl _) _).alloc (by rw [World.size_alloc]; omega) _)
  generalize (w.alloc (.cells #[.bool false, .int .i64 s, .int .i64 e] 23)).alloc (.cells #[.int .i64 s, .int .i64 e] 194) = X at hz HB ⊢
  have c0 : X.cell? ⟨w.heap.size, 0, none⟩ = some (.bool false) := (blk_cell hz 0).trans rfl
  have c1 : X.cell? ⟨w.heap.size, 1, none⟩ = some (.int .i64 s) := (blk_cell hz 1).trans rfl
  have c2 : X.cell? ⟨w.heap.size, 2, none⟩ = some (.int .i64 e) := (blk_cell hz 2).trans rfl
  exact bodyPost_ret (v := .agg #[.bool false, .int .i64 s, .int .i64 e]) (by simp [results, Tryz.results45, go_sem, c0, c1, c2]; try rfl) rfl ⟨rfl, HB.out⟩
set_option maxHeartbeats 4000000 in
set_option maxRecDepth 100000 in
theorem backWin_0 (w : World) : Calls Tryz.prog 45 #[.iface 192 (.agg #[])] w fun x w' => x = .returned (.agg #[.bool true, .int .i64 0, .int .i64 0]) ∧ Below w.heap.size w w' := by
  have ta := taG
  go_enter Tryz.func45, Tryz.ntmps45
  go_wp2
  have hz := blk_alloc' (o' := .cells #[.int .i64 0, .int .i64 0] 194 (0, 0)) (heap_alloc_new w (.cells #[.bool true, .int .i64 0, .int .i64 0] 23))
  have HB := Lib.hid (show Below w.heap.size w ((w.alloc (.cells #[.bool true, .int .i64 0, .int .i64 0] 23)).alloc (.cells #[.int .i64 0, .int .i64 0] 194)) from ((Below.refl _ w).alloc (Nat.le_refl _) _).alloc (by rw [World.size_alloc]; omega) _)
  generalize (w.alloc (.cells #[.bool true, .int .i64 0, .int .i64 0] 23)).alloc (.cells #[.int .i64 0, .int .i64 0] 194) = X at hz HB ⊢
  have c0 : X.cell? ⟨w.heap.size, 0, none⟩ = some (.bool true) := (blk_cell hz 0).trans rfl
  have c1 : X.cell? ⟨w.heap.size, 1, none⟩ = some (.int .i64 0) := (blk_cell hz 1).trans rfl
  have c2 : X.cell? ⟨w.heap.size, 2, none⟩ = some (.int .i64 0) := (blk_cell hz 2).trans rfl
  exact bodyPost_ret (v := .agg #[.bool true, .int .i64 0, .int .i64 0]) (by simp [results, Tryz.results45, go_sem, c0, c1, c2]; try rfl) rfl ⟨rfl, HB.out⟩
end Go.Proofs.YtgdbeiadlgkedaaGreatDoor
set_option linter.unusedVariables false
set_option linter.unusedSimpArgs false
namespace Go.Proofs.YtgdbeiadlgkedaaGreatDoor
open Go.RowKit
theorem D1.grown {w x y : World} {cs : Array Value} {T : TypeId} {r : Nat} (h : D1 w cs T x) (hg : x.grownBy y (some r)) (hr : w.heap.size < r) : D1 w cs T y :=
  ⟨(hg.block _ (blk_lt h.1) (by intro e; cases e; omega)).trans h.1, h.2.trans (grown_below hg h.2.size (by omega))⟩
theorem D1.drewN {w x : World} {cs : Array Value} {T : TypeId} (h : D1 w cs T x) (n : Nat) : D1 w cs T (x.drewN n) := ⟨h.1, below_drewN h.2 n⟩
end Go.Proofs.YtgdbeiadlgkedaaGreatDoor
set_option linter.unusedVariables false
set_option linter.unusedSimpArgs false
namespace Go.Proofs.YtgdbeiadlgkedaaGreatDoor
open Go.RowKit PFnWindowOne Go.Proofs.YtgdbeiadlgkedaaGreatDoorW.PrintWords Go.Proofs.YtgdbeiadlgkedaaGreatDoorW.PrintLast Go.Proofs.YtgdbeiadlgkedaaGreatDoorW.PrintMore
def toS (x : S23) : S32 := ⟨x.f0, x.f1, x.f2⟩
theorem wrap_up (i : Nat) (h : i < 1000000) : wrap64 ((i : Int) + 1) = ((i + 1 : Nat) : Int) := by unfold wrap64; omega
theorem rd23_at (l : List S23) (i : Nat) (h : i < l.length) : rd_T23 l (i : Int) = l[i] := by unfold rd_T23; simp [List.getD_eq_getElem?_getD, h]
theorem rd32_at (l : List S32) (i : Nat) (h : i < l.length) : rd_T32 l (i : Int) = l[i] := by unfold rd_T32; simp [List.getD_eq_getElem?_getD, h]
theorem spanOf_l (l : List S23) (hl : l.length ≤ 100000) : ∀ (m i : Nat) (x3 : List S32), i + m = l.length → x3.length = i → laws_codSpanOf.l0 (m + 1) x3 l (l.length : Int) (i : Int) = some (x3 ++ (l.drop i).map toS)
  | 0, i, x3, h, _ => by
    rw [laws_codSpanOf.l0, if_neg (by omega), List.drop_eq_nil_of_le (by omega)]; simp
  | m + 1, i, x3, h, hx => by
    have hlt : i < l.length := by omega
    rw [laws_codSpanOf.l0, if_pos (by omega), if_pos (by omega), if_pos (by omega), if_pos (by omega), wrap_up i (by omega), spanOf_l l hl m (i + 1) _ (by omega) (by simp [hx]), List.drop_eq_getElem_cons hlt, rd23_at l i hlt, List.map_cons, List.append_assoc]
    rfl
theorem spanOf_f (l : List S23) (hl : l.length ≤ 100000) : laws_codSpanOf.f (l.length + 1) l = some (l.map toS) := by
  unfold laws_codSpanOf.f
  have := spanOf_l l hl l.length 0 [] (by omega) rfl
  simpa using this
def okS (x : S32) : Prop := x.f0 = false ∧ -9223372036854775 ≤ x.f1 ∧ x.f2 ≤ 9223372036854775 ∧ x.f1 ≤ x.f2
theorem spansAre_l (l : List S32) (hl : l.length ≤ 1000) : ∀ (m i : Nat), i + m = l.length → ∃ b, spec_CodSpansAre.l0 (m + 1) l (l.length : Int) (i : Int) = some b ∧ (b = true → ∀ j (h : j < l.length), i ≤ j → okS l[j])
  | 0, i, h => by
    rw [spec_CodSpansAre.l0, if_neg (by omega)]
    exact ⟨true, rfl, fun _ j hj hij => by omega⟩
  | m + 1, i, h => by
    have hlt : i < l.length := by omega
    rw [spec_CodSpansAre.l0, if_pos (by omega), if_pos (by omega), if_pos (by omega), rd32_at l i hlt]
    by_cases c0 : l[i].f0 = true
    · rw [if_pos c0]; exact ⟨false, rfl, fun h => by cases h⟩
    rw [if_neg c0]
    by_cases c1 : l[i].f1 < -9223372036854775
    · rw [if_pos c1]; exact ⟨false, rfl, fun h => by cases h⟩
    rw [if_neg c1]
    by_cases c2 : l[i].f2 > 9223372036854775
    · rw [if_pos c2]; exact ⟨false, rfl, fun h => by cases h⟩
    rw [if_neg c2]
    by_cases c3 : l[i].f2 < l[i].f1
    · rw [if_pos c3]; exact ⟨false, rfl, fun h => by cases h⟩
    rw [if_neg c3, wrap_up i (by omega)]
    obtain ⟨b, hb, hg⟩ := spansAre_l l hl m (i + 1) (by omega)
    refine ⟨b, hb, fun hbt j hj hij => ?_⟩
    by_cases e : j = i
    · subst e; exact ⟨by simpa using c0, by omega, by omega, by omega⟩
    · exact hg hbt j hj (by omega)
theorem spansAre_f (l : List S32) : ∃ b, spec_CodSpansAre.f (l.length + 1) l = some b ∧ (b = true → l.length ≤ 20 ∧ ∀ x ∈ l, okS x) := by
  unfold spec_CodSpansAre.f
  by_cases h : (l.length : Int) > 20
  · rw [if_pos h]; exact ⟨false, rfl, fun h => by cases h⟩
  · rw [if_neg h]
    obtain ⟨b, hb, hg⟩ := spansAre_l l (by omega) l.length 0 (by omega)
    refine ⟨b, hb, fun hbt => ⟨by omega, fun x hx => ?_⟩⟩
    obtain ⟨j, hj, rfl⟩ := List.getElem_of_mem hx
    exact hg hbt j hj (Nat.zero_le _)
theorem few_f (l : List S23) : ∃ b, laws_codSpanFew.f (l.length + 1) l = some b ∧ (b = true → l.length ≤ 20 ∧ ∀ x ∈ l, okS (toS x)) := by
  unfold laws_codSpanFew.f
  by_cases h : (l.length : Int) ≤ 20
  · rw [if_pos h, spanOf_f l (by omega)]
    obtain ⟨b, hb, hg⟩ := spansAre_f (l.map toS)
    rw [List.length_map] at hb hg
    refine ⟨b, by simp [hb], fun hbt => ⟨by omega, fun x hx => (hg hbt).2 _ (List.mem_map_of_mem hx)⟩⟩
  · rw [if_neg h]; exact ⟨false, rfl, fun h => by cases h⟩
theorem be8 (v : Nat) (h : v < 18446744073709551616) : Lib.beNat (Lib.beBytes 8 v) = v := Lib.beNat_beBytes 8 v (by rw [show (256 : Nat) ^ 8 = 18446744073709551616 by decide]; exact h)
theorem be4 (v : Nat) (h : v < 4294967296) : Lib.beNat (Lib.beBytes 4 v) = v := Lib.beNat_beBytes 4 v (by rw [show (256 : Nat) ^ 4 = 4294967296 by decide]; exact h)
theorem time_back (n : Int) (h : -9223372036854775808 ≤ n ∧ n ≤ 9223372036854775807) : wrap64 (wrap64 (((n + 9223372036854775808).toNat : Nat) : Int) + -9223372036854775808) = n := by unfold wrap64; omega
theorem take_pre {n : Nat} {a b : List UInt8} (h : a.length = n) : (a ++ b).take n = a := by rw [List.take_append_of_le_length (by omega), List.take_of_length_le (by omega)]
theorem drop_pre {n : Nat} {a b : List UInt8} (h : a.length = n) : (a ++ b).drop n = b := by rw [List.drop_append_of_le_length (by omega), List.drop_of_length_le (by omega), List.nil_append]
theorem win_read (s e : Int) (rest l : List UInt8) (i : Nat) (hs : -9223372036854775 ≤ s) (he : e ≤ 9223372036854775) (hse : s ≤ e) (hd : l.drop i = wbytes s e ++ rest) :
    i + 8 ≤ l.length ∧ wrap64 (wrap64 (Lib.beNat ((l.drop i).take 8) : Nat) + -9223372036854775808) = e ∧ vrd 0 0 (l.drop (i + 8)) = some (u64of (e - s), (Lib.uvarint (u64of (e - s))).length) ∧ nrm (wrap64 (e - wrap64 ((u64of (e - s) : Nat) : Int))) = s := by
  have h8 := Lib.beBytes_length 8 (e + 9223372036854775808).toNat
  have hw : wbytes s e ++ rest = Lib.beBytes 8 (e + 9223372036854775808).toNat ++ (Lib.uvarint (u64of (e - s)) ++ rest) := by unfold wbytes; rw [List.append_assoc]
  rw [hw] at hd
  refine ⟨?_, ?_, ?_, ?_⟩
  · have := congrArg List.length hd
    rw [List.length_drop, List.length_append, h8] at this
    omega
  · rw [hd, take_pre h8, be8 _ (by omega), time_back e (by omega)]
  · rw [← List.drop_drop, hd, drop_pre h8]
    exact vrd_uv rest (u64of_lt _)
  · have h1 : wrap64 ((u64of (e - s) : Nat) : Int) = e - s := by unfold wrap64 u64of; omega
    have h2 : wrap64 (e - (e - s)) = s := by unfold wrap64; omega
    rw [h1, h2, nrm_in hs (by omega)]
end Go.Proofs.YtgdbeiadlgkedaaGreatDoor
set_option linter.unusedVariables false
set_option linter.unusedSimpArgs false
namespace Go.Proofs.YtgdbeiadlgkedaaGreatDoor
open Go.RowKit PFnWindowOne Go.Proofs.YtgdbeiadlgkedaaGreatDoorW.PrintWords
def ifv (x : S23) : Value := if x.f0 then .iface 192 (.agg #[]) else .iface 194 (.agg #[.int .i64 x.f1, .int .i64 x.f2])
theorem ifv_one (x : S23) : (ifv x).oneCell' = true := by unfold ifv; split <;> rfl
theorem ifv_iface (x : S23) : ∃ t v, ifv x = .iface t v := by unfold ifv; split <;> exact ⟨_, _, rfl⟩
def kIf : Kd S23 := Kd.scalar ifv ifv_one
def rdN (xs : List S23) (i : Nat) : S23 := xs.getD i z23
theorem rdN_at (l : List S23) (i : Nat) (h : i < l.length) : rdN l i = l[i] := by unfold rdN; simp [List.getD_eq_getElem?_getD, h]
theorem atN {w : World} {A : Option Addr} {n : Nat} {xs : List S23} (h : Kd.C k23 w A n xs) (i : Nat) (h1 : i < n) : ∃ ad, A = some ad ∧ w.cell? (ad.add (i * 3)) = some (.bool (rdN xs i).f0) ∧ w.cell? ⟨(ad.add (i * 3)).block, (ad.add (i * 3)).off + 1, none⟩ = some (.int .i64 (rdN xs i).f1) ∧ w.cell? ⟨(ad.add (i * 3)).block, (ad.add (i * 3)).off + 2, none⟩ = some (.int .i64 (rdN xs i).f2) := by
  obtain ⟨ad, e, h0, h1, h2⟩ := at_T23 h (i : Int) (by omega) (by omega)
  exact ⟨ad, e, h0, h1, h2⟩
theorem atIf {w : World} {A : Option Addr} {n : Nat} {xs : List S23} (h : Kd.C kIf w A n xs) (i : Nat) (h1 : i < n) : ∃ ad, A = some ad ∧ w.cell? (ad.add i) = some (ifv (rdN xs i)) := by
  obtain ⟨ad, c, e, _, hK, hc0⟩ := Kd.C_get h z23 (i : Int) (by omega) (by omega)
  have hc : ∀ j u, c[j]? = some u → w.cell? (ad.add (i * 1 + j)) = some u := hc0
  obtain rfl : c = [ifv (rdN xs i)] := hK
  exact ⟨ad, e, by have := hc 0 _ rfl; simpa using this⟩
theorem take_succ (l : List S23) (k : Nat) (h : k < l.length) : l.take (k + 1) = l.take k ++ [rdN l k] := by
  rw [List.take_succ_eq_append_getElem h, rdN_at l k h]
theorem info23 : (Tryz.prog.info? 23).map (fun i => (i.zero, i.size, i.bytes)) = some (some (.agg #[(.bool false), (.int .i64 0), (.int .i64 0)]), 3, 24) := by kernel_rfl
theorem info88 : (Tryz.prog.info? 88).map (fun i => (i.zero, i.size, i.bytes)) = some (some .nilIface, 1, 16) := by kernel_rfl
theorem win_any (x : S23) (w : World) : Calls Tryz.prog 40 #[.agg #[.bool x.f0, .int .i64 x.f1, .int .i64 x.f2]] w fun e w' => e = .returned (ifv x) ∧ Below w.heap.size w w' := by
  obtain ⟨g, s, e⟩ := x
  cases g
  · go_enter Tryz.func40, Tryz.ntmps40
    go_wp2
    go_ret
    exact ⟨rfl, by repeat (first | exact Below.refl _ _ | apply below_alloc | apply below_drew | refine below_set ?_ (by simp) | (refine Below.setCell ?_ (by simp) _))⟩
  · go_enter Tryz.func40, Tryz.ntmps40
    go_wp2
    go_ret
    exact ⟨rfl, by repeat (first | exact Below.refl _ _ | apply below_alloc | apply below_drew | refine below_set ?_ (by simp) | (refine Below.setCell ?_ (by simp) _))⟩
def nz (x : S23) : S23 := if x.f0 then ⟨true, 0, 0⟩ else x
theorem backWin_any (x : S23) (w : World) : Calls Tryz.prog 45 #[ifv x] w fun e w' => e = .returned (.agg #[.bool (nz x).f0, .int .i64 (nz x).f1, .int .i64 (nz x).f2]) ∧ Below w.heap.size w w' := by
  obtain ⟨g, s, e⟩ := x
  cases g
  · exact backWin_1 s e w
  · exact backWin_0 w
set_option maxHeartbeats 1000000 in
set_option maxRecDepth 100000 in
theorem wins_any (A0 : Option Addr) (c0 : Nat) (l : List S23) (w : World) (hr0 : Kd.C k23 w A0 l.length l) (hc0 : l.length ≤ c0) (hl : l.length * 24 ≤ 140737488351232) :
    Calls Tryz.prog 48 #[.slice A0 l.length c0] w fun e w' => ∃ v : Value, e = .returned v ∧ Kd.R kIf 88 w' w.heap.size (fun _ => True) v l ∧ Below w.heap.size w w' := by
  have HR0 := Aside0.mk hr0
  have HC0 := Aside0.mk hc0
  clear hr0 hc0
  have HB := Aside0.mk (Below.refl w.heap.size w)
  go_enter Tryz.func48, Tryz.ntmps48
  go_wp2
  go_loopg [3, 8] l.length (fun kq v3 v8 w' => ∃ k : Nat, k ≤ l.length ∧ Aside0 (kq = l.length - k) ∧ v8 = .int .i64 k ∧ Aside0 (Kd.R kIf 88 w' w.heap.size (fun _ => True) v3 (l.take k)) ∧ Aside0 (Below w.heap.size w w'))
  case atStart => exact ⟨0, Nat.zero_le _, ⟨by simp⟩, rfl, ⟨Kd.R_nil _ _ _ _ _⟩, HB⟩
  case round =>
    clear HB
    obtain ⟨k, hk, hq, rfl, HO, HB⟩ := hrel
    by_cases hlt : k < l.length
    · obtain ⟨ad, e104, hx0, hx1, hx2⟩ := atN HR0.out k hlt
      cases e104
      replace hx0 := (HB.out.cell (World.block_lt_of_cell? w _ hx0)).trans hx0
      replace hx1 := (HB.out.cell (World.block_lt_of_cell? w _ hx1)).trans hx1
      replace hx2 := (HB.out.cell (World.block_lt_of_cell? w _ hx2)).trans hx2
      have hts := Aside0.mk (take_succ l k hlt)
      have htl := Aside0.mk (List.length_take_of_le hk)
      go_wp2_with (first | ((with_reducible refine gate_dst (N := 5) rfl ?_); refine box_event ?hg (N := 5) ?hd (cs := #[.bool false, .int .i64 0, .int .i64 0]) (t := 23) ?hr ?_; (case hd => rfl); (case hg => rfl); (case hr => first | (go_simp; done) | (go_simp; rfl)); intro gb hg w6 hbox hb; have n0_ := Aside0.mk (Kd.R_below (by (with_reducible repeat (first | apply Kd.R_alloc | apply Kd.R_drewN | apply Kd.R_drew)); exact HO.out) hb); have n1_ := Aside0.mk (below_step (by repeat (first | (with_reducible first | exact HB.out | apply below_alloc | apply pw_below_drewN | apply below_drew1) | exact HB.out)) hb); have BK := Aside0.mk (hbox); have GE := Aside0.mk ((by rw [hg]; exact (below_size (by repeat (first | (with_reducible first | exact HB.out | apply below_alloc | apply pw_below_drewN | apply below_drew1) | exact HB.out)))) : w.heap.size ≤ gb); clear HO; have HO := n0_; clear n0_; clear HB; have HB := n1_; clear n1_; clear hb hbox hg; have hcz_0 : w6.cell? ⟨gb, 0, none⟩ = some (.bool false) := (blk_cell BK.out 0).trans rfl; have hfz_0 := blk_frozen BK.out 0; have hcz_1 : w6.cell? ⟨gb, 1, none⟩ = some (.int .i64 0) := (blk_cell BK.out 1).trans rfl; have hfz_1 := blk_frozen BK.out 1; have hcz_2 : w6.cell? ⟨gb, 2, none⟩ = some (.int .i64 0) := (blk_cell BK.out 2).trans rfl; have hfz_2 := blk_frozen BK.out 2) | (go_at_call 40; (with_reducible refine (win_any (rdN l k) _).mono ?_); rintro e w7 ⟨rfl, hb7⟩; obtain ⟨t_, v_, hv_⟩ := ifv_iface (rdN l k); rw [hv_]; have HV := Aside0.mk hv_; clear hv_; have n1_ := Aside0.mk (below_then (by repeat (first | (with_reducible first | exact HB.out | apply below_alloc | apply pw_below_drewN | apply below_drew1 | refine below_set ?_ GE.out) | exact HB.out)) (below_size (by repeat (first | (with_reducible first | exact HB.out | apply below_alloc | apply pw_below_drewN | apply below_drew1 | refine below_set ?_ GE.out) | exact HB.out))) hb7); have n2_ := Aside0.mk (Kd.R_below (by (with_reducible repeat (first | apply Kd.R_alloc | apply Kd.R_drewN | apply Kd.R_drew)); exact Kd.R_mono (Kd.R_far (p := ⟨gb, 2, none⟩) (Kd.R_far (p := ⟨gb, 1, none⟩) (Kd.R_far (p := ⟨gb, 0, none⟩) (Kd.R_types HO.out BK.out (by decide)) (fun _ hk => hk.2) (.bool (rdN l k).f0)) (fun _ hk => hk.2) (.int .i64 (rdN l k).f1)) (fun _ hk => hk.2) (.int .i64 (rdN l k).f2)) (fun _ hk => trivial)) hb7); clear BK HB HO hb7; have HB := n1_; have HO := n2_; clear n1_ n2_) | ((with_reducible refine gate_builtin (b := .append) (xs := #[.tmp 12, .tmp 15]) rfl ?_); at_builtin; refine Kd.R_append kIf (w0 := w) w.heap.size rfl (.tmp 12) (.tmp 15) 107 88 .nilIface 16 rfl Tryz.underlying107 info88 rfl (by decide) (by omega) u3 (l.take k) (rdN l k) [.iface t_ v_] (fun _ => True) (fun _ => False) rfl (by first | (go_simp; done) | (go_simp; rfl)) ?aP (fun _ hk => hk.elim) ?aF ?aO ?aB ?aS ?aL ?_; (case aP => exact (congrArg (fun z => [z]) HV.out.symm)); (case aB => exact (by repeat (first | (with_reducible first | exact HB.out | apply below_alloc | apply pw_below_drewN | apply below_drew1) | exact HB.out))); (case aF => exact (fun _ _ => trivial)); (case aO => exact (by (with_reducible repeat (first | apply Kd.R_alloc | apply Kd.R_drewN | apply Kd.R_drew)); exact HO.out)); (case aS => exact (below_size (by repeat (first | (with_reducible first | exact HB.out | apply below_alloc | apply pw_below_drewN | apply below_drew1) | exact HB.out)))); (case aL => have := htl.out; omega); intro v107 w8 ho hb hg hat; rw [← hts.out] at ho; have n1_ := Aside0.mk (hb); have n2_ := Aside0.mk (ho); clear HB; clear HO; have HB := n1_; have HO := n2_; clear n1_ n2_; clear ho hb hg hat))
      go_roundg (l.length - (k + 1))
      case measure => have := hq.out; omega
      case rel => exact ⟨k + 1, by omega, ⟨rfl⟩, by go_num, HO, HB⟩
    · have hkl : Aside0 (k = l.length) := ⟨by omega⟩
      go_wp2
      go_ret
      have HO' := HO.out
      rw [hkl.out, List.take_length] at HO'
      exact ⟨_, rfl, HO', HB.out⟩
theorem take_map_nz (l : List S23) (k : Nat) (h : k < l.length) : (l.take (k + 1)).map nz = (l.take k).map nz ++ [nz (rdN l k)] := by rw [take_succ l k h]; simp
set_option maxHeartbeats 1000000 in
set_option maxRecDepth 100000 in
theorem backWins_any (A0 : Option Addr) (c0 : Nat) (l : List S23) (w : World) (hr0 : Kd.C kIf w A0 l.length l) (hc0 : l.length ≤ c0) (hl : l.length * 24 ≤ 140737488351232) :
    Calls Tryz.prog 50 #[.slice A0 l.length c0] w fun e w' => ∃ v : Value, e = .returned v ∧ Kd.R k23 23 w' w.heap.size (fun _ => True) v (l.map nz) ∧ Below w.heap.size w w' := by
  have HR0 := Aside0.mk hr0
  have HC0 := Aside0.mk hc0
  clear hr0 hc0
  have HB := Aside0.mk (Below.refl w.heap.size w)
  go_enter Tryz.func50, Tryz.ntmps50
  go_wp2
  go_loopg [3, 8] l.length (fun kq v3 v8 w' => ∃ k : Nat, k ≤ l.length ∧ Aside0 (kq = l.length - k) ∧ v8 = .int .i64 k ∧ Aside0 (Kd.R k23 23 w' w.heap.size (fun _ => True) v3 ((l.take k).map nz)) ∧ Aside0 (Below w.heap.size w w'))
  case atStart => exact ⟨0, Nat.zero_le _, ⟨by simp⟩, rfl, ⟨Kd.R_nil _ _ _ _ _⟩, HB⟩
  case round =>
    clear HB
    obtain ⟨k, hk, hq, rfl, HO, HB⟩ := hrel
    by_cases hlt : k < l.length
    · obtain ⟨ad, e104, hx0⟩ := atIf HR0.out k hlt
      cases e104
      replace hx0 := (HB.out.cell (World.block_lt_of_cell? w _ hx0)).trans hx0
      have hts := Aside0.mk (take_map_nz l k hlt)
      have htl := Aside0.mk (show ((l.take k).map nz).length = k by rw [List.length_map, List.length_take_of_le hk])
      go_wp2_with (first | (go_at_call 45; (with_reducible refine (backWin_any (rdN l k) _).mono ?_); rintro e w7 ⟨rfl, hb7⟩; have n1_ := Aside0.mk (below_then (by repeat (first | (with_reducible first | exact HB.out | apply below_alloc | apply pw_below_drewN | apply below_drew1) | exact HB.out)) (below_size (by repeat (first | (with_reducible first | exact HB.out | apply below_alloc | apply pw_below_drewN | apply below_drew1) | exact HB.out))) hb7); have n2_ := Aside0.mk (Kd.R_below (by (with_reducible repeat (first | apply Kd.R_alloc | apply Kd.R_drewN | apply Kd.R_drew)); exact HO.out) hb7); clear HB HO hb7; have HB := n1_; have HO := n2_; clear n1_ n2_) | ((with_reducible refine gate_builtin (b := .append) (xs := #[.tmp 12, .tmp 15]) rfl ?_); at_builtin; refine Kd.R_append k23 (w0 := w) w.heap.size rfl (.tmp 12) (.tmp 15) 25 23 (.agg #[(.bool false), (.int .i64 0), (.int .i64 0)]) 24 rfl Tryz.underlying25 info23 rfl (by decide) (by omega) u3 ((l.take k).map nz) (nz (rdN l k)) [.bool (nz (rdN l k)).f0, .int .i64 (nz (rdN l k)).f1, .int .i64 (nz (rdN l k)).f2] (fun _ => True) (fun _ => False) rfl (by first | (go_simp; done) | (go_simp; rfl)) ?aP (fun _ hk => hk.elim) ?aF ?aO ?aB ?aS ?aL ?_; (case aP => exact k23_mkM _ _ _ _); (case aB => exact (by repeat (first | (with_reducible first | exact HB.out | apply below_alloc | apply pw_below_drewN | apply below_drew1) | exact HB.out))); (case aF => exact (fun _ _ => trivial)); (case aO => exact (by (with_reducible repeat (first | apply Kd.R_alloc | apply Kd.R_drewN | apply Kd.R_drew)); exact HO.out)); (case aS => exact (below_size (by repeat (first | (with_reducible first | exact HB.out | apply below_alloc | apply pw_below_drewN | apply below_drew1) | exact HB.out)))); (case aL => have := htl.out; omega); intro v107 w8 ho hb hg hat; rw [← hts.out] at ho; have n1_ := Aside0.mk (hb); have n2_ := Aside0.mk (ho); clear HB; clear HO; have HB := n1_; have HO := n2_; clear n1_ n2_; clear ho hb hg hat))
      go_roundg (l.length - (k + 1))
      case measure => have := hq.out; omega
      case rel => exact ⟨k + 1, by omega, ⟨rfl⟩, by go_num, HO, HB⟩
    · have hkl : Aside0 (k = l.length) := ⟨by omega⟩
      go_wp2
      go_ret
      have HO' := HO.out
      rw [hkl.out, List.take_length] at HO'
      exact ⟨_, rfl, HO', HB.out⟩
section
variable {P : Program} {ops : Array Oper} {rest : List Oper} {o : Oper} {a : Act} {Q : Exit → Act → World → Prop}
theorem R_append_wins {w0 W : World} (base : Nat) (hgd : o.guard = none) (s x : Operand) (t : TypeId)
    (ho : o.op = .call { callee := .builtin .append, args := #[s, x], argTypes := #[t, t] })
    (ht : P.underlying t = some (.slice 23)) (hinfo : (P.info? 23).map (fun i => (i.zero, i.size, i.bytes)) = some (some (.agg #[(.bool false), (.int .i64 0), (.int .i64 0)]), 3, 24))
    (v : Value) (xs ys : List S23) (A : Option Addr) (m c : Nat) (hs : a.eval s = v) (hx : a.eval x = .slice A m c)
    (HO : Kd.R k23 23 W base (fun _ => True) v xs) (HR : Kd.C k23 W A m ys) (HB : Below base w0 W) (hbase : base ≤ W.heap.size) (hl : (xs.length + m) * 24 ≤ 140737488355328)
    (h : ∀ A1 c1 w1, Kd.R k23 23 w1 base (fun _ => True) (.slice A1 (xs ++ ys).length c1) (xs ++ ys) → Below base w0 w1 → W.grownBy w1 v.ownBlock → wpList P ops Q rest (a.put o.dst (.slice A1 (xs ++ ys).length c1)) w1) : wpList P ops Q (o :: rest) a W := by
  refine Kd.R_append_rows k23 (Rr := k23.K W) (w0 := w0) base hgd s x t 23 _ 24 ho ht hinfo rfl (by decide) (by decide) v xs ys A m c (fun _ => True) (fun _ => False) hs hx HO HR (fun _ _ q => q) (fun _ q => q.elim) (fun _ _ => trivial) HB hbase hl (fun v1 w1 h1 h2 h3 _ => ?_)
  obtain ⟨A1, c1, hv⟩ := Kd.R_slice h1
  subst hv
  exact h A1 c1 w1 h1 h2 h3
end
end Go.Proofs.YtgdbeiadlgkedaaGreatDoor
set_option linter.unusedVariables false
set_option linter.unusedSimpArgs false
namespace Go.Proofs.YtgdbeiadlgkedaaGreatDoor
open Go.RowKit PFnWindowOne Go.Proofs.YtgdbeiadlgkedaaGreatDoorW.PrintWords
def tmOf (l : List UInt8) : Int := wrap64 (wrap64 (Lib.beNat (l.take 8) : Nat) + -9223372036854775808)
def rdWin (l : List UInt8) : Option (S23 × Nat) :=
  if l.length < 8 then none else (vrd 0 0 (l.drop 8)).map fun p => (⟨false, nrm (wrap64 (tmOf l - wrap64 (p.1 : Nat))), tmOf l⟩, 8 + p.2)
def rdWins : Nat → List UInt8 → Option (List S23 × Nat)
  | 0, _ => some ([], 0)
  | n + 1, l => (rdWin l).bind fun p => (rdWins n (l.drop p.2)).map fun q => (p.1 :: q.1, p.2 + q.2)
theorem rdWins_ok {m : Nat} {l : List UInt8} {ys : List S23} {q : Nat} (h : rdWins (m + 1) l = some (ys, q)) : ∃ x k ys' q', rdWin l = some (x, k) ∧ rdWins m (l.drop k) = some (ys', q') ∧ ys = x :: ys' ∧ q = k + q' := by
  simp only [rdWins] at h
  obtain ⟨⟨x, k⟩, h1, h2⟩ := Option.bind_eq_some_iff.1 h
  obtain ⟨⟨ys', q'⟩, h3, h4⟩ := Option.map_eq_some_iff.1 h2
  simp only [Prod.mk.injEq] at h4
  exact ⟨x, k, ys', q', h1, h3, h4.1.symm, h4.2.symm⟩
theorem rdWin_some {l : List UInt8} {x : S23} {k : Nat} (h : rdWin l = some (x, k)) : 8 ≤ l.length ∧ ∃ v k', vrd 0 0 (l.drop 8) = some (v, k') ∧ x = ⟨false, nrm (wrap64 (tmOf l - wrap64 (v : Nat))), tmOf l⟩ ∧ k = 8 + k' := by
  unfold rdWin at h
  split at h
  · cases h
  · rename_i h8
    obtain ⟨⟨v, k'⟩, h1, h2⟩ := Option.map_eq_some_iff.1 h
    simp only [Prod.mk.injEq] at h2
    exact ⟨by omega, v, k', h1, h2.1.symm, h2.2.symm⟩
theorem drop_ge {i n : Nat} {l : List UInt8} (h : n ≤ (l.drop i).length) (hi : i ≤ l.length) : i + n ≤ l.length := by rw [List.length_drop] at h; omega
theorem decSingle_win (B : Nat) (pe pl : Addr) (a : Option Addr) (r g : Nat) (l : List UInt8) (i : Nat) (w : World) (h : Rd r g l i w) (he : Env B pe pl w) (hBr : B ≤ r) (hB : B ≤ w.heap.size) (x : S23) (k : Nat) (hx : rdWin (l.drop i) = some (x, k)) :
    Calls Tryz.prog 160 #[.pointer a, rdI r] w fun e w' => e = .returned (.tuple #[ifv x, .nilIface]) ∧ w.grownBy w' (some r) ∧ Rd r g l (i + k) w' := by
  obtain ⟨h8, v, k', hv, rfl, rfl⟩ := rdWin_some hx
  have := decSingle_ok B pe pl a r g l i w h he hBr hB (drop_ge h8 h.le) (tmOf (l.drop i)) rfl v k' (by rw [List.drop_drop] at hv; exact hv)
  rw [Nat.add_assoc] at this
  exact this
def IfRow (gb n : Nat) (xs : List S23) (w : World) : Prop := ∃ cs : Array Value, w.heap[gb]? = some (.cells cs 88 (0, 0)) ∧ cs.size = n ∧ ∀ (j : Nat) (x : S23), xs[j]? = some x → cs[j]? = some (ifv x)
theorem IfRow.set {gb n : Nat} {xs : List S23} {w : World} (h : IfRow gb n xs w) (x : S23) (hl : xs.length < n) : IfRow gb n (xs ++ [x]) (w.setCell ⟨gb, xs.length, none⟩ (ifv x)) := by
  obtain ⟨cs, h1, h2, h3⟩ := h
  refine ⟨cs.setIfInBounds xs.length (ifv x), Lib.heap_setCell_same (i := xs.length) h1 (ifv x), by simp [h2], fun j y hj => ?_⟩
  rw [Array.getElem?_setIfInBounds]
  by_cases e : xs.length = j
  · subst e
    rw [List.getElem?_append_right (Nat.le_refl _)] at hj
    simp only [Nat.sub_self, List.getElem?_cons_zero, Option.some.injEq] at hj
    subst hj
    rw [if_pos rfl, if_pos (by omega)]
  · rw [if_neg e]
    refine h3 j y ?_
    have hlt := (List.getElem?_eq_some_iff.1 hj).1
    rw [List.length_append, List.length_singleton] at hlt
    rwa [List.getElem?_append_left (by omega)] at hj
theorem IfRow.move {gb n : Nat} {xs : List S23} {w w' : World} (h : IfRow gb n xs w) (hk : w'.heap[gb]? = w.heap[gb]?) : IfRow gb n xs w' := by
  obtain ⟨cs, h1, h2, h3⟩ := h
  exact ⟨cs, hk.trans h1, h2, h3⟩
theorem IfRow.lt {gb n : Nat} {xs : List S23} {w : World} (h : IfRow gb n xs w) : gb < w.heap.size := by obtain ⟨cs, h1, _⟩ := h; exact blk_lt h1
theorem IfRow.frozen {gb n : Nat} {xs : List S23} {w : World} (h : IfRow gb n xs w) (i : Nat) : w.frozen? ⟨gb, i, none⟩ = false := by obtain ⟨cs, h1, _⟩ := h; exact blk_frozen h1 i
theorem IfRow.cell {gb n : Nat} {xs : List S23} {w : World} (h : IfRow gb n xs w) (i : Nat) (hi : i < n) : ∃ v, w.cell? ⟨gb, i, none⟩ = some v := by
  obtain ⟨cs, h1, h2, h3⟩ := h
  exact ⟨cs[i]'(by omega), by rw [blk_cell h1]; simp [h2, hi]⟩
theorem IfRow.C {gb : Nat} {xs : List S23} {w : World} (h : IfRow gb xs.length xs w) (hl : xs.length ≤ 1000000) : Kd.C kIf w (some ⟨gb, 0, none⟩) xs.length xs := by
  obtain ⟨cs, h1, h2, h3⟩ := h
  refine ⟨rfl, by omega, fun _ => ⟨⟨gb, 0, none⟩, rfl, fun j p hj => ⟨[ifv p], rfl, rfl, fun i u hu => ?_⟩⟩⟩
  obtain ⟨rfl, rfl⟩ : i = 0 ∧ u = ifv p := by
    cases i with
    | zero => exact ⟨rfl, by simpa using hu.symm⟩
    | succ i => simp at hu
  show w.cell? (Addr.add ⟨gb, 0, none⟩ (j * 1 + 0)) = _
  rw [Nat.mul_one, Nat.add_zero, Lib.addr_add, blk_cell h1]
  have : 0 + j = j := by omega
  rw [this]
  exact h3 j p hj
def mkI (n : Nat) : Obj := .cells (madeCells #[.nilIface] (n * 1)) 88
theorem mk_ifs (n : Nat) (hn : n ≤ 1000000) : ∀ W : World, (Instr.makeSlice 107 (.int .i32 (n : Int)) (.int .i32 (n : Int))).run Tryz.prog W = .ok (.slice (some ⟨W.heap.size, 0, none⟩) n n) (W.alloc (mkI n)) := by
  intro W
  have hm : (Tryz.prog.info? 88).map (fun i => (i.zero, i.size, i.bytes)) = some (some .nilIface, 1, 16) := by kernel_rfl
  obtain ⟨i, hi, he⟩ := Option.map_eq_some_iff.1 hm
  simp only [Prod.mk.injEq] at he
  obtain ⟨hz, hs, hb⟩ := he
  have h := run_makeSlice (P := Tryz.prog) W 107 88 i _ Tryz.underlying107 hi hz .i32 .i32 (n : Int) (n : Int) (by omega) (Int.le_refl _) (by rw [hs]; simp; omega) (by rw [hb]; simp; omega) (by omega)
  rw [hs, show (Value.nilIface).cells = #[.nilIface] from rfl] at h
  simpa [mkI] using h
theorem mkI_row (w : World) (n : Nat) : IfRow w.heap.size n [] (w.alloc (mkI n)) := ⟨madeCells #[.nilIface] (n * 1), heap_alloc_new w _, by rw [size_madeCells, Nat.mul_one], fun j x h => by simp at h⟩
end Go.Proofs.YtgdbeiadlgkedaaGreatDoor
set_option linter.unusedVariables false
set_option linter.unusedSimpArgs false
namespace Go.Proofs.YtgdbeiadlgkedaaGreatDoor
open Go.RowKit PFnWindowOne Go.Proofs.YtgdbeiadlgkedaaGreatDoorW.PrintWords
theorem grown_setgeZ {r : Nat} {w w' : World} (h : w.grownBy w' (some r)) {p : Addr} (hp : w.heap.size ≤ p.block) (v : Value) : w.grownBy (w'.setCell p v) (some r) :=
  ⟨h.os, h.tape, h.output, by simpa [World.setCell] using h.size, fun i hi hr => (Below.heap_setCell _ _ _ _ (by omega)).trans (h.block i hi hr)⟩
set_option maxHeartbeats 8000000 in
set_option maxRecDepth 100000 in
theorem decAll_ok (B : Nat) (pe pl : Addr) (a : Option Addr) (r g : Nat) (l : List UInt8) (i : Nat) (w : World) (h : Rd r g l i w) (he : Env B pe pl w) (hBr : B ≤ r) (hB : B ≤ w.heap.size) (hi : i + 4 ≤ l.length) (n : Nat) (hn : wrap32 (Lib.beNat ((l.drop i).take 4) : Nat) = (n : Int)) (hn2 : n ≤ 10000) (xs : List S23) (q : Nat) (hx : rdWins n (l.drop (i + 4)) = some (xs, q)) :
    Calls Tryz.prog 159 #[.pointer a, rdI r] w fun e w' => ∃ gb, e = .returned (.tuple #[.slice (some ⟨gb, 0, none⟩) n n, .nilIface]) ∧ IfRow gb n xs w' ∧ xs.length = n ∧ w.heap.size ≤ gb ∧ w.grownBy w' (some r) ∧ Rd r g l (i + 4 + q) w' := by
  have hC := decI32_ok r g l i w h hi
  rw [hn] at hC
  have HC := Lib.hid hC
  have HX := Lib.hid hx
  have HE := Lib.hid (And.intro he (And.intro hBr hB))
  have HRG := Lib.hid (And.intro h.lt h.ltg)
  have km := mk_ifs n (by omega)
  clear h he hBr hB hi hn hx hC
  go_enter Tryz.func159, Tryz.ntmps159
  go_wp2_with (go_at_call 84; go_loud (refine HC.out.mono ?_; rintro e_ w1 ⟨rfl, hg, hr⟩; have H1 := Lib.hid (And.intro hg hr); clear hg hr))
  have HR1 := Lib.hid (mkI_row w1 n)
  have HG1 := Lib.hid (show w.grownBy (w1.alloc (mkI n)) (some r) from grown_alloc H1.out.1 _)
  have HD1 := Lib.hid (show Rd r g l (i + 4) (w1.alloc (mkI n)) from H1.out.2.alloc _)
  have HS := Lib.hid (show w.heap.size ≤ w1.heap.size from H1.out.1.size)
  clear km HC H1
  generalize w1.alloc (mkI n) = W1 at HR1 HG1 HD1 ⊢
  go_loopg [9] n (fun kq v9 w' => ∃ (k : Nat) (ys zs : List S23) (p q' : Nat), k ≤ n ∧ Aside0 (kq = n - k) ∧ v9 = .int .i32 k ∧ Hid (xs = ys ++ zs ∧ ys.length = k ∧ rdWins (n - k) (l.drop p) = some (zs, q') ∧ p + q' = i + 4 + q) ∧ Hid (IfRow w1.heap.size n ys w') ∧ Hid (Rd r g l p w') ∧ Hid (w.grownBy w' (some r)))
  case atStart => exact ⟨0, [], xs, i + 4, q, Nat.zero_le _, ⟨by simp⟩, rfl, Lib.hid ⟨rfl, rfl, HX.out, rfl⟩, HR1, HD1, HG1⟩
  case round =>
    clear HR1 HG1 HD1
    obtain ⟨k, ys, zs, p, q', hk, hq, rfl, HP, HR, HD, HG⟩ := hrel
    by_cases hlt : k < n
    · obtain ⟨m, hm⟩ : ∃ m, n - k = m + 1 := ⟨n - k - 1, by omega⟩
      have hp := HP.out.2.2.1
      rw [hm] at hp
      obtain ⟨x, kk, zs', q'', h1, h2, h3, h4⟩ := rdWins_ok hp
      have HS1 := Lib.hid (decSingle_win B pe pl a r g l p _ HD.out (HE.out.1.below (grown_below HG.out HE.out.2.2 HE.out.2.1)) HE.out.2.1 (Nat.le_trans HE.out.2.2 HG.out.size) x kk h1)
      have HN := Lib.hid (show xs = (ys ++ [x]) ++ zs' ∧ (ys ++ [x]).length = k + 1 ∧ rdWins (n - (k + 1)) (l.drop (p + kk)) = some (zs', q'') ∧ (p + kk) + q'' = i + 4 + q from by
        refine ⟨by rw [HP.out.1, h3]; simp, by rw [List.length_append, HP.out.2.1]; rfl, ?_, by have := HP.out.2.2.2; omega⟩
        rw [show n - (k + 1) = m by omega, ← List.drop_drop]; exact h2)
      obtain ⟨t_, v_, hv_⟩ := ifv_iface x
      have HV := Lib.hid hv_
      rw [hv_] at HS1
      have qi : IntKind.i32.wrap ((k : Int) + 1) = ((k + 1 : Nat) : Int) := by rw [IntKind.wrap_i32]; omega
      have qi2 : wrap32 ((k : Int) + 1) = ((k + 1 : Nat) : Int) := by unfold wrap32; omega
      clear hp h1 h2 h3 h4 hv_ hm
      go_wp2_with (go_at_call 160; go_loud (refine HS1.out.mono ?_; rintro e_ w2 ⟨rfl, hg, hd⟩; have hr2 := HR.out.move (hg.block _ HR.out.lt (by have := HRG.out.1; have := HS.out; intro e; cases e; omega)); have f0 := hr2.frozen k; obtain ⟨v0, c0⟩ := hr2.cell k hlt; have HR2 := Lib.hid hr2; have HD2 := Lib.hid hd; have HG2 := Lib.hid (grown_trans HG.out hg); clear hg hd hr2))
      go_roundg (n - (k + 1))
      case measure => have := hq.out; omega
      case rel =>
        refine ⟨k + 1, ys ++ [x], zs', p + kk, q'', by omega, ⟨rfl⟩, by first | rfl | (simp only [qi]; done) | (simp only [qi2]; done), HN, Lib.hid ?_, Lib.hid ?_, Lib.hid ?_⟩
        · have := HR2.out.set x (by rw [HP.out.2.1]; exact hlt)
          rw [HP.out.2.1, HV.out] at this
          exact this
        · exact HD2.out.set _ _ (by have := HRG.out.1; have := HS.out; show w1.heap.size ≠ r; omega) (by have := HRG.out.2; have := HS.out; show w1.heap.size ≠ g; omega)
        · exact grown_setgeZ HG2.out (by exact HS.out) _
    · have hkl : k = n := by omega
      subst hkl
      go_wp2
      go_ret2
      obtain ⟨e1, e2, e3, e4⟩ := HP.out
      rw [Nat.sub_self] at e3
      obtain ⟨rfl, rfl⟩ : zs = [] ∧ 0 = q' := by simpa [rdWins] using e3
      rw [List.append_nil] at e1
      subst e1
      refine ⟨_, rfl, HR.out, e2, HS.out, HG.out, ?_⟩
      rw [← e4]; exact HD.out
end Go.Proofs.YtgdbeiadlgkedaaGreatDoor
