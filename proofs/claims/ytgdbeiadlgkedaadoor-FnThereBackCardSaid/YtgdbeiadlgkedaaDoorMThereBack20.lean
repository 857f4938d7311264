/- Contracts and plain laws, several texts in one. -/
import Derived.Test.YtgdbeiadlgkedaaDoorMThereBack1
import Derived.Test.YtgdbeiadlgkedaaDoorMThereBack2
import Derived.Test.YtgdbeiadlgkedaaDoorMThereBack3
import Derived.Test.YtgdbeiadlgkedaaDoorMThereBack17
import Derived.Test.YtgdbeiadlgkedaaDoorMThereBack18
import Derived.Test.YtgdbeiadlgkedaaDoorMThereBack19
import Derived.Deep.RegionHeld3
import Derived.Test.YtgdbeiadlgkedaaDoorProg
import Derived.Below
import Derived.Deep.Draws
import Derived.Deep.AppendLies
import Derived.Maps.AppendAt
import Derived.OwnWalk
import Derived.Laws.BytesArg
import Derived.Laws.MakeOwn
import Derived.Laws.OwnMore
import Derived.Deep.OwnRows
import Derived.Tactics
import Derived.Lib.ConvBytes
import Derived.Laws.Slices
import Derived.WalkKit
import Derived.KernelRfl
import Derived.RowKit3
import Derived.Deep.LoopGhost
import Derived.Deep.QuietTactic
import Derived.BigQuiet
import Derived.WideLaws
import Derived.Deep.DeepCutAuto
import Derived.Deep.CutBlock
import Derived.Laws.Rows
import Derived.Lib.AppendStr
import Derived.ArgAppend
import Derived.Laws.IdiomCopy
import Derived.OrdersHeld
import Derived.Laws.BitsLemmas
import Derived.RowKit
import Derived.Lib.Varint
import Derived.Deep.Slices
import Derived.Deep.Strs
import Derived.ChangeArms
set_option linter.unusedVariables false
set_option linter.unusedSimpArgs false
namespace Go.Proofs.YtgdbeiadlgkedaaDoor
open Go.RowKit PFnEncode Go.Proofs.YtgdbeiadlgkedaaDoorW.PrintWords Go.Proofs.YtgdbeiadlgkedaaDoorW.PrintLast Go.Proofs.YtgdbeiadlgkedaaDoorW.PrintMore
def Rng (x : PFnThereBack.S26) : Prop := (-9223372036854775808 ≤ x.f2 ∧ x.f2 ≤ 9223372036854775807) ∧ (0 ≤ x.f3 ∧ x.f3 < 18446744073709551616) ∧ (0 ≤ x.f4 ∧ x.f4 < 18446744073709551616) ∧ (-9223372036854775808 ≤ x.f6.f3 ∧ x.f6.f3 ≤ 9223372036854775807) ∧ (-9223372036854775808 ≤ x.f6.f4 ∧ x.f6.f4 ≤ 9223372036854775807)
def TBs (x : PFnThereBack.S26) (e : List UInt8) : Prop := ∃ qi qn, TB x.f0 x.f1 x.f2 x.f3 x.f4 x.f5 x.f6.f0 x.f6.f1 x.f6.f2 x.f6.f3 x.f6.f4 e qi qn ∧ qi = (if x.f0 = 6 ∧ x.f6.f0 = 3 then 0 else x.f6.f3) ∧ qn = (if x.f0 = 6 ∧ x.f6.f0 = 3 then 0 else x.f6.f4)
theorem clean_total (x : PFnThereBack.S26) : ∃ c, laws_codClean.f (0 + 5) x.f0 x.f1 x.f2 x.f3 x.f4 x.f5 x.f6.f0 x.f6.f1 x.f6.f2 x.f6.f3 x.f6.f4 = some c := by
  obtain ⟨a0, fl, n, u, b, t, pt, pf, pl, pi, pn⟩ := x
  by_cases ho : a0 < 0 ∨ 12 < a0
  · exact ⟨_, clean_out 0 a0 fl n u b t pt pf pl pi pn ho⟩
  obtain ⟨q, rfl⟩ := Int.eq_ofNat_of_zero_le (show 0 ≤ a0 by omega)
  match q, ho with
  | 0, _ => exact ⟨_, clean_0 0 fl n u b t pt pf pl pi pn⟩
  | 1, _ => exact ⟨_, clean_1 0 fl n u b t pt pf pl pi pn⟩
  | 2, _ => exact ⟨_, clean_2 0 fl n u b t pt pf pl pi pn⟩
  | 3, _ => exact ⟨_, clean_3 0 fl n u b t pt pf pl pi pn⟩
  | 4, _ => exact ⟨_, clean_4 0 fl n u b t pt pf pl pi pn⟩
  | 5, _ => exact ⟨_, clean_5 0 fl n u b t pt pf pl pi pn⟩
  | 6, _ => exact ⟨_, clean_6 0 fl n u b t pt pf pl pi pn⟩
  | 7, _ => exact ⟨_, clean_7 0 fl n u b t pt pf pl pi pn⟩
  | 8, _ => exact ⟨_, clean_8 0 fl n u b t pt pf pl pi pn⟩
  | 9, _ => exact ⟨_, clean_9 0 fl n u b t pt pf pl pi pn⟩
  | 10, _ => exact ⟨_, clean_10 0 fl n u b t pt pf pl pi pn⟩
  | 11, _ => exact ⟨_, clean_11 0 fl n u b t pt pf pl pi pn⟩
  | 12, _ => exact ⟨_, clean_12 0 fl n u b t pt pf pl pi pn⟩
  | q + 13, ho => exact absurd (by omega) ho
def EncTo (xs : List PFnThereBack.S26) (k : Nat) (E : List (List UInt8)) : Prop := E.length = k ∧ ∀ j, j < k → TBs (PFnThereBack.rd_T26 xs (j : Int)) (E.getD j [])
theorem EncTo.snoc {xs : List PFnThereBack.S26} {k : Nat} {E : List (List UInt8)} {e : List UInt8} (h : EncTo xs k E) (he : TBs (PFnThereBack.rd_T26 xs (k : Int)) e) : EncTo xs (k + 1) (E ++ [e]) := by
  obtain ⟨hl, hj⟩ := h
  refine ⟨by rw [List.length_append, hl]; rfl, fun j hlt => ?_⟩
  by_cases e1 : j = k
  · subst e1
    have e2 : (E ++ [e]).getD j [] = e := by
      rw [List.getD_eq_getElem?_getD, List.getElem?_append_right (by omega), hl, Nat.sub_self]; rfl
    rw [e2]; exact he
  · have e2 : (E ++ [e]).getD j [] = E.getD j [] := by
      rw [List.getD_eq_getElem?_getD, List.getD_eq_getElem?_getD, List.getElem?_append_left (by omega)]
    rw [e2]
    exact hj j (by omega)
theorem flat_snoc {E : List (List UInt8)} {e : List UInt8} {k : Nat} (h : E.flatten.length ≤ 400 * k) (he : e.length ≤ 400) : (E ++ [e]).flatten.length ≤ 400 * (k + 1) := by
  rw [List.flatten_append, List.length_append, show ([e] : List (List UInt8)).flatten = e by simp]; omega
theorem flat_arr (E : List (List UInt8)) (e : List UInt8) : (⟨E.flatten.toArray⟩ : ByteArray) ++ ⟨e.toArray⟩ = ⟨(E ++ [e]).flatten.toArray⟩ := by
  apply str_ext0; rw [ByteArray.data_append]; simp
theorem flat_cons (E : List (List UInt8)) (k : Nat) (h : k < E.length) (r : List UInt8) : (E.drop k).flatten ++ r = E.getD k [] ++ ((E.drop (k + 1)).flatten ++ r) := by
  rw [List.drop_eq_getElem_cons h, List.flatten_cons, List.append_assoc, List.getD_eq_getElem?_getD, List.getElem?_eq_getElem h]; rfl
theorem fits2_some (xs : List PFnThereBack.S26) : ∃ k c, PFnThereBack.laws_zzFits2.f k xs = some c := by
  by_cases h : (xs.length : Int) > 2147483647
  · exact ⟨0, false, by unfold PFnThereBack.laws_zzFits2.f; rw [if_pos h]⟩
  have hl : ∀ d i : Nat, i + d = xs.length → ∃ c, PFnThereBack.laws_zzFits2.l0 (d + 1) xs (xs.length : Int) (i : Int) = some c := by
    intro d
    induction d with
    | zero => intro i hi; exact ⟨true, by rw [PFnThereBack.laws_zzFits2.l0, if_neg (by omega)]⟩
    | succ d ih =>
      intro i hi
      obtain ⟨c, hc⟩ := ih (i + 1) (by omega)
      have hw : wrap64 ((i : Int) + 1) = ((i + 1 : Nat) : Int) := by unfold wrap64; omega
      rw [PFnThereBack.laws_zzFits2.l0, if_pos (by omega), if_pos (by omega), if_pos (by omega), hw, hc]
      unfold PFnThereBack.laws_zzFits1.f
      split
      · exact ⟨false, rfl⟩
      · exact ⟨c, rfl⟩
  obtain ⟨c, hc⟩ := hl xs.length 0 (by omega)
  exact ⟨xs.length + 1, c, by unfold PFnThereBack.laws_zzFits2.f; rw [if_neg h]; exact hc⟩
theorem back_f (a0 : Int) (fl : Bool) (n u b : Int) (t : ByteArray) (pt : Int) (pf pl : Bool) (pi pn qi qn : Int) (h1 : qi = (if a0 = 6 ∧ pt = 3 then 0 else pi)) (h2 : qn = (if a0 = 6 ∧ pt = 3 then 0 else pn)) : PFnThereBack.laws_codBack.f a0 fl n u b t pt pf pl pi pn = some (a0, fl, n, u, b, t, pt, pf, pl, qi, qn) := by
  subst h1 h2
  unfold PFnThereBack.laws_codBack.f PFnThereBack.spec_CodPaneBack.f
  by_cases c : a0 = 6
  · by_cases d : pt = 3
    · rw [if_pos c, if_pos d, if_pos ⟨c, d⟩, if_pos ⟨c, d⟩]; rfl
    · rw [if_pos c, if_neg d, if_neg (fun h => d h.2), if_neg (fun h => d h.2)]; rfl
  · rw [if_neg c, if_neg (fun h => c h.1), if_neg (fun h => c h.1)]
theorem drop_strT (s : ByteArray) (k : Nat) : (s.extract k s.size).data.toList = s.data.toList.drop k := by
  rw [Lib.extract_data, List.take_of_length_le (by rw [List.length_drop, Array.length_toList]; exact Nat.le_refl _)]
theorem add_fit (s t : ByteArray) (h1 : s.size ≤ 10000) (h2 : t.size ≤ 10000) : ∀ W : World, (Op.stringOp .add s t).run Tryd.prog W = .ok (.string (s ++ t)) W := by
  intro W
  simp [Op.stringOp]
  omega
theorem rng_rd {xs : List PFnThereBack.S26} (h : ∀ x ∈ xs, Rng x) (z : Int) (h0 : 0 ≤ z) (h1 : z < xs.length) : Rng (PFnThereBack.rd_T26 xs z) := by
  unfold PFnThereBack.rd_T26
  have hl : z.toNat < xs.length := by omega
  rw [List.getD_eq_getElem?_getD, List.getElem?_eq_getElem hl]
  exact h _ (List.getElem_mem hl)
theorem tbs_of (x : PFnThereBack.S26) (hr : Rng x) (hc : laws_codClean.f (0 + 5) x.f0 x.f1 x.f2 x.f3 x.f4 x.f5 x.f6.f0 x.f6.f1 x.f6.f2 x.f6.f3 x.f6.f4 = some true) : ∃ e, TBs x e := by
  obtain ⟨r1, r2, r3, r4, r5⟩ := hr
  obtain ⟨e, qi, qn, h, h1, h2⟩ := there_back x.f0 x.f1 x.f2 x.f3 x.f4 x.f5 x.f6.f0 x.f6.f1 x.f6.f2 x.f6.f3 x.f6.f4 r1 r2 r3 r4 r5 hc
  exact ⟨e, qi, qn, h, h1, h2⟩
def DS2 (w0 : World) (b6 b7 : Nat) (c6 c7 : Array Value) (w' : World) : Prop := w'.heap[b6]? = some (.cells c6 26 (0, 0)) ∧ w'.heap[b7]? = some (.cells c7 26 (0, 0)) ∧ Below w0.heap.size w0 w'
theorem DS2.step {w0 x y : World} {b6 b7 : Nat} {c6 c7 : Array Value} (h : DS2 w0 b6 b7 c6 c7 x) (hb : Below x.heap.size x y) : DS2 w0 b6 b7 c6 c7 y := ⟨blk_below h.1 hb, blk_below h.2.1 hb, below_then h.2.2 h.2.2.size hb⟩
theorem DS2.of {w0 x : World} {b6 b7 : Nat} {c0 c1 c2 c3 c4 c5 c6 c7 c8 c9 c10 d0 d1 d2 d3 d4 d5 d6 d7 d8 d9 d10 : Value} (h : DS2 w0 b6 b7 #[c0, c1, c2, c3, c4, c5, c6, c7, c8, c9, c10] #[d0, d1, d2, d3, d4, d5, d6, d7, d8, d9, d10] x) : x.cell? ⟨b6, 0, none⟩ = some c0 ∧ x.cell? ⟨b6, 1, none⟩ = some c1 ∧ x.cell? ⟨b6, 2, none⟩ = some c2 ∧ x.cell? ⟨b6, 3, none⟩ = some c3 ∧ x.cell? ⟨b6, 4, none⟩ = some c4 ∧ x.cell? ⟨b6, 5, none⟩ = some c5 ∧ x.cell? ⟨b6, 6, none⟩ = some c6 ∧ x.cell? ⟨b6, 7, none⟩ = some c7 ∧ x.cell? ⟨b6, 8, none⟩ = some c8 ∧ x.cell? ⟨b6, 9, none⟩ = some c9 ∧ x.cell? ⟨b6, 10, none⟩ = some c10 ∧ x.cell? ⟨b7, 0, none⟩ = some d0 ∧ x.cell? ⟨b7, 1, none⟩ = some d1 ∧ x.cell? ⟨b7, 2, none⟩ = some d2 ∧ x.cell? ⟨b7, 3, none⟩ = some d3 ∧ x.cell? ⟨b7, 4, none⟩ = some d4 ∧ x.cell? ⟨b7, 5, none⟩ = some d5 ∧ x.cell? ⟨b7, 6, none⟩ = some d6 ∧ x.cell? ⟨b7, 7, none⟩ = some d7 ∧ x.cell? ⟨b7, 8, none⟩ = some d8 ∧ x.cell? ⟨b7, 9, none⟩ = some d9 ∧ x.cell? ⟨b7, 10, none⟩ = some d10 ∧ Aside0 (DS2 w0 b6 b7 #[c0, c1, c2, c3, c4, c5, c6, c7, c8, c9, c10] #[d0, d1, d2, d3, d4, d5, d6, d7, d8, d9, d10] x) :=
  ⟨(blk_cell h.1 0).trans rfl, (blk_cell h.1 1).trans rfl, (blk_cell h.1 2).trans rfl, (blk_cell h.1 3).trans rfl, (blk_cell h.1 4).trans rfl, (blk_cell h.1 5).trans rfl, (blk_cell h.1 6).trans rfl, (blk_cell h.1 7).trans rfl, (blk_cell h.1 8).trans rfl, (blk_cell h.1 9).trans rfl, (blk_cell h.1 10).trans rfl, (blk_cell h.2.1 0).trans rfl, (blk_cell h.2.1 1).trans rfl, (blk_cell h.2.1 2).trans rfl, (blk_cell h.2.1 3).trans rfl, (blk_cell h.2.1 4).trans rfl, (blk_cell h.2.1 5).trans rfl, (blk_cell h.2.1 6).trans rfl, (blk_cell h.2.1 7).trans rfl, (blk_cell h.2.1 8).trans rfl, (blk_cell h.2.1 9).trans rfl, (blk_cell h.2.1 10).trans rfl, ⟨h⟩⟩
set_option maxHeartbeats 8000000 in
set_option maxRecDepth 100000 in
theorem there_unfit (pe pl : Addr) (A0 : Option Addr) (c0 : Nat) (xs : List PFnThereBack.S26) (rest : ByteArray) (w : World) (he : Env w.heap.size pe pl w) (hC : Kd.C PFnThereBack.k26 w A0 xs.length xs) (hc0 : xs.length ≤ c0) (k : Nat) (hf : PFnThereBack.laws_zzFits2.f k xs = some false) :
    Calls Tryd.prog 8 #[.slice A0 xs.length c0, .string rest] w fun e w' => e = .returned (.bool true) ∧ Below w.heap.size w w' := by
  have HF := Lib.hid (PFnThereBack.laws_zzFits2.calls k A0 c0 xs false w hC hc0 hf)
  have HE := Lib.hid he
  clear he hC hc0 hf
  go_enter Tryd.func8, Tryd.ntmps8
  go_wp2_with (go_at_call 30; go_loud ((with_reducible refine HF.out.mono ?_); rintro e_ w1 ⟨rfl, hb⟩; have HB1 := Lib.hid hb; clear hb))
  go_ret
  exact ⟨rfl, HB1.out⟩
set_option maxHeartbeats 8000000 in
set_option maxRecDepth 100000 in
theorem there_long (pe pl : Addr) (A0 : Option Addr) (c0 : Nat) (xs : List PFnThereBack.S26) (rest : ByteArray) (w : World) (he : Env w.heap.size pe pl w) (hC : Kd.C PFnThereBack.k26 w A0 xs.length xs) (hc0 : xs.length ≤ c0) (k : Nat) (hf : PFnThereBack.laws_zzFits2.f k xs = some true) (h : 2147483647 < rest.size) :
    Calls Tryd.prog 8 #[.slice A0 xs.length c0, .string rest] w fun e w' => e = .returned (.bool true) ∧ Below w.heap.size w w' := by
  have HF := Lib.hid (PFnThereBack.laws_zzFits2.calls k A0 c0 xs true w hC hc0 hf)
  have HE := Lib.hid he
  have q1 : 2147483647 < (rest.size : Int) := by omega
  clear he hC hc0 hf h
  go_enter Tryd.func8, Tryd.ntmps8
  go_wp2_with (go_at_call 30; go_loud ((with_reducible refine HF.out.mono ?_); rintro e_ w1 ⟨rfl, hb⟩; have HB1 := Lib.hid hb; clear hb))
  go_ret
  exact ⟨rfl, HB1.out⟩
set_option maxHeartbeats 8000000 in
set_option maxRecDepth 100000 in
theorem there_many (pe pl : Addr) (A0 : Option Addr) (c0 : Nat) (xs : List PFnThereBack.S26) (rest : ByteArray) (w : World) (he : Env w.heap.size pe pl w) (hC : Kd.C PFnThereBack.k26 w A0 xs.length xs) (hc0 : xs.length ≤ c0) (k : Nat) (hf : PFnThereBack.laws_zzFits2.f k xs = some true) (h : ¬ 2147483647 < rest.size) (h2 : 20 < xs.length) :
    Calls Tryd.prog 8 #[.slice A0 xs.length c0, .string rest] w fun e w' => e = .returned (.bool true) ∧ Below w.heap.size w w' := by
  have HF := Lib.hid (PFnThereBack.laws_zzFits2.calls k A0 c0 xs true w hC hc0 hf)
  have HE := Lib.hid he
  have q1 : ¬ 2147483647 < (rest.size : Int) := by omega
  have q2 : 20 < (xs.length : Int) := by omega
  clear he hC hc0 hf h h2
  go_enter Tryd.func8, Tryd.ntmps8
  go_wp2_with (first | (go_at_call 30; go_loud ((with_reducible refine HF.out.mono ?_); rintro e_ w1 ⟨rfl, hb⟩; have HB1 := Lib.hid hb; clear hb)) | (go_at_call 21; (with_reducible refine (awake_any w.heap.size pe pl _ (HE.out.below HB1.out) HB1.out.size).mono ?_); rintro e_ wz ⟨rfl, hb⟩; have HBz := Lib.hid (below_then HB1.out HB1.out.size hb); clear hb))
  go_ret
  exact ⟨rfl, HBz.out⟩
set_option maxHeartbeats 8000000 in
set_option maxRecDepth 100000 in
theorem there_much (pe pl : Addr) (A0 : Option Addr) (c0 : Nat) (xs : List PFnThereBack.S26) (rest : ByteArray) (w : World) (he : Env w.heap.size pe pl w) (hC : Kd.C PFnThereBack.k26 w A0 xs.length xs) (hc0 : xs.length ≤ c0) (k : Nat) (hf : PFnThereBack.laws_zzFits2.f k xs = some true) (h : ¬ 2147483647 < rest.size) (h2 : ¬ 20 < xs.length) (h3 : 50 < rest.size) :
    Calls Tryd.prog 8 #[.slice A0 xs.length c0, .string rest] w fun e w' => e = .returned (.bool true) ∧ Below w.heap.size w w' := by
  have HF := Lib.hid (PFnThereBack.laws_zzFits2.calls k A0 c0 xs true w hC hc0 hf)
  have HE := Lib.hid he
  have q1 : ¬ 2147483647 < (rest.size : Int) := by omega
  have q2 : ¬ 20 < (xs.length : Int) := by omega
  have q3 : 50 < (rest.size : Int) := by omega
  clear he hC hc0 hf h h2 h3
  go_enter Tryd.func8, Tryd.ntmps8
  go_wp2_with (first | (go_at_call 30; go_loud ((with_reducible refine HF.out.mono ?_); rintro e_ w1 ⟨rfl, hb⟩; have HB1 := Lib.hid hb; clear hb)) | (go_at_call 21; (with_reducible refine (awake_any w.heap.size pe pl _ (HE.out.below HB1.out) HB1.out.size).mono ?_); rintro e_ wz ⟨rfl, hb⟩; have HBz := Lib.hid (below_then HB1.out HB1.out.size hb); clear hb))
  go_ret
  exact ⟨rfl, HBz.out⟩
set_option maxHeartbeats 8000000 in
set_option maxRecDepth 100000 in
theorem there_ok (pe pl : Addr) (A0 : Option Addr) (c0 : Nat) (xs : List PFnThereBack.S26) (rest : ByteArray) (w : World) (he : Env w.heap.size pe pl w) (hC : Kd.C PFnThereBack.k26 w A0 xs.length xs) (hc0 : xs.length ≤ c0) (k : Nat) (hf : PFnThereBack.laws_zzFits2.f k xs = some true) (hr : ∀ x ∈ xs, Rng x) (h2 : xs.length ≤ 20) (h3 : rest.size ≤ 50) :
    Calls Tryd.prog 8 #[.slice A0 xs.length c0, .string rest] w fun e w' => e = .returned (.bool true) ∧ Below w.heap.size w w' := by
  have HF := Lib.hid (PFnThereBack.laws_zzFits2.calls k A0 c0 xs true w hC hc0 hf)
  have HE := Lib.hid he
  have q1 : ¬ 2147483647 < (rest.size : Int) := by omega
  have q2 : ¬ 20 < (xs.length : Int) := by omega
  have q3 : ¬ 50 < (rest.size : Int) := by omega
  have HC := Lib.hid hC
  have HR := Lib.hid hr
  have HL := Lib.hid (And.intro h2 h3)
  clear he hC hc0 hf h2 h3 hr
  go_enter Tryd.func8, Tryd.ntmps8
  go_wp2_with (go_at_call 30; go_loud ((with_reducible refine HF.out.mono ?_); rintro e_ w1 ⟨rfl, hb⟩; have HB1 := Lib.hid hb; clear hb))
  go_loopg [5, 34] xs.length (fun kq v5 v34 w' => ∃ (z : Int) (k2 : Nat) (E : List (List UInt8)) (s : ByteArray), v5 = .string s ∧ v34 = .int .i64 z ∧ Hid (z = (k2 : Int) ∧ k2 ≤ xs.length ∧ kq = xs.length - k2) ∧ Hid (s = ⟨E.flatten.toArray⟩ ∧ EncTo xs k2 E ∧ E.flatten.length ≤ 400 * k2) ∧ Hid (Below w.heap.size w w'))
  case atStart => exact ⟨0, 0, [], _, rfl, rfl, Lib.hid ⟨rfl, Nat.zero_le _, rfl⟩, Lib.hid ⟨rfl, ⟨rfl, fun j hj => absurd hj (by omega)⟩, by simp⟩, HB1⟩
  case round =>
    clear HB1 HF
    obtain ⟨z, k2, E, s, rfl, rfl, HZ, HS, HB⟩ := hrel
    by_cases hlt : k2 < xs.length
    · have p159 : 0 ≤ z := by have := HZ.out; omega
      have q159 : z < (xs.length : Int) := by have := HZ.out; omega
      have hrd : PFnThereBack.rd_T26 xs z = PFnThereBack.rd_T26 xs (k2 : Int) := by rw [HZ.out.1]
      obtain ⟨ad, e159, hx0, hx1, hx2, hx3, hx4, hx5, hx6, hx7, hx8, hx9, hx10⟩ := PFnThereBack.at_T26 HC.out z p159 q159
      cases e159
      replace hx0 := (HB.out.cell (World.block_lt_of_cell? w _ hx0)).trans hx0
      replace hx1 := (HB.out.cell (World.block_lt_of_cell? w _ hx1)).trans hx1
      replace hx2 := (HB.out.cell (World.block_lt_of_cell? w _ hx2)).trans hx2
      replace hx3 := (HB.out.cell (World.block_lt_of_cell? w _ hx3)).trans hx3
      replace hx4 := (HB.out.cell (World.block_lt_of_cell? w _ hx4)).trans hx4
      replace hx5 := (HB.out.cell (World.block_lt_of_cell? w _ hx5)).trans hx5
      replace hx6 := (HB.out.cell (World.block_lt_of_cell? w _ hx6)).trans hx6
      replace hx7 := (HB.out.cell (World.block_lt_of_cell? w _ hx7)).trans hx7
      replace hx8 := (HB.out.cell (World.block_lt_of_cell? w _ hx8)).trans hx8
      replace hx9 := (HB.out.cell (World.block_lt_of_cell? w _ hx9)).trans hx9
      replace hx10 := (HB.out.cell (World.block_lt_of_cell? w _ hx10)).trans hx10
      obtain ⟨cl, hcl⟩ := clean_total (PFnThereBack.rd_T26 xs z)
      have HT : cl = true → ∃ e, TBs (PFnThereBack.rd_T26 xs z) e := fun h => tbs_of _ (rng_rd HR.out z p159 q159) (h ▸ hcl)
      have HSN := Lib.hid (fun e (h : TBs (PFnThereBack.rd_T26 xs z) e) => EncTo.snoc HS.out.2.1 (hrd ▸ h))
      clear hrd
      replace p159 := eq_true p159
      generalize PFnThereBack.rd_T26 xs z = x at hx0 hx1 hx2 hx3 hx4 hx5 hx6 hx7 hx8 hx9 hx10 hcl HT HSN
      obtain ⟨a0, fl, n, u, b, t, pt, pf, pl_, pi, pn⟩ := x
      dsimp only at hx0 hx1 hx2 hx3 hx4 hx5 hx6 hx7 hx8 hx9 hx10 hcl
      cases cl
      · have HCL := Lib.hid (fun W => laws_codClean.calls (0 + 5) a0 fl n u b t pt pf pl_ pi pn false W hcl)
        clear hcl HT HSN hlt
        go_wp2_with (first | (go_at_call 23; go_loud ((with_reducible refine (HCL.out _).mono ?_); rintro e_ w2 ⟨rfl, hb⟩; have HB2 := Lib.hid (below_then (below_alloc HB.out (.cells #[.int .i64 a0, .bool fl, .int .i64 n, .int .u64 u, .int .u64 b, .string t, .int .i64 pt, .bool pf, .bool pl_, .int .i64 pi, .int .i64 pn] 26)) (below_alloc HB.out (.cells #[.int .i64 a0, .bool fl, .int .i64 n, .int .u64 u, .int .u64 b, .string t, .int .i64 pt, .bool pf, .bool pl_, .int .i64 pi, .int .i64 pn] 26)).size hb); clear hb)) | (go_at_call 21; (with_reducible refine (awake_any w.heap.size pe pl _ (HE.out.below HB2.out) HB2.out.size).mono ?_); rintro e_ wz ⟨rfl, hb⟩; have HBz := Lib.hid (below_then HB2.out HB2.out.size hb); clear hb))
        go_ret
        exact ⟨rfl, HBz.out⟩
      · have HCL := Lib.hid (fun W => laws_codClean.calls (0 + 5) a0 fl n u b t pt pf pl_ pi pn true W hcl)
        obtain ⟨e, hTe⟩ := HT rfl
        have HN := Lib.hid (HSN.out e hTe)
        obtain ⟨qi, qn, hTB, h1, h2⟩ := hTe
        have HEN := Lib.hid hTB.enc
        obtain ⟨se, hse⟩ : ∃ se : ByteArray, se = ⟨e.toArray⟩ := ⟨_, rfl⟩
        have hes : se.size = e.length := by rw [hse]; rfl
        have hss : s.size = E.flatten.length := by rw [HS.out.1]; rfl
        have hadd := add_fit s se (by have := HS.out.2.2; have := HZ.out; have := HL.out.1; omega) (by have := hTB.len; omega)
        dsimp only at HEN
        rw [← hse] at HEN
        have HSE := Lib.hid (And.intro hse hTB.len)
        clear hcl HT HSN hTB h1 h2 hse hes hss hlt
        go_wp2_with (first | (go_at_call 23; go_loud ((with_reducible refine (HCL.out _).mono ?_); rintro e_ w2 ⟨rfl, hb⟩; have HX2 := Lib.hid (blk_below (heap_alloc_new wr (.cells #[.int .i64 a0, .bool fl, .int .i64 n, .int .u64 u, .int .u64 b, .string t, .int .i64 pt, .bool pf, .bool pl_, .int .i64 pi, .int .i64 pn] 26)) hb); have HB2 := Lib.hid (below_then (below_alloc HB.out (.cells #[.int .i64 a0, .bool fl, .int .i64 n, .int .u64 u, .int .u64 b, .string t, .int .i64 pt, .bool pf, .bool pl_, .int .i64 pi, .int .i64 pn] 26)) (below_alloc HB.out (.cells #[.int .i64 a0, .bool fl, .int .i64 n, .int .u64 u, .int .u64 b, .string t, .int .i64 pt, .bool pf, .bool pl_, .int .i64 pi, .int .i64 pn] 26)).size hb); clear hb hx0 hx1 hx2 hx3 hx4 hx5 hx6 hx7 hx8 hx9 hx10; obtain ⟨hx0, hx1, hx2, hx3, hx4, hx5, hx6, hx7, hx8, hx9, hx10⟩ := cells11 HX2.out)) | (go_at_call 27; go_loud ((with_reducible refine (HEN.out _).mono ?_); rintro e_ w3 ⟨rfl, hb⟩; have HB3 := Lib.hid (below_then HB2.out HB2.out.size hb); clear hb)))
        go_roundg (xs.length - (k2 + 1))
        case measure => have := HZ.out; have := of_eq_true p159; omega
        case rel => exact ⟨wrap64 (z + 1), k2 + 1, E ++ [e], s ++ se, rfl, rfl, Lib.hid ⟨by have := HZ.out; have := HL.out; unfold wrap64; omega, by have := HZ.out; omega, rfl⟩, Lib.hid ⟨by rw [HS.out.1, HSE.out.1]; exact flat_arr E e, HN.out, flat_snoc HS.out.2.2 HSE.out.2⟩, HB3⟩
    · have hk : k2 = xs.length := by have := HZ.out; omega
      have q159 : ¬ z < (xs.length : Int) := by have := HZ.out; omega
      have hss : s.size = E.flatten.length := by rw [HS.out.1]; rfl
      have hadd := add_fit s rest (by have := HS.out.2.2; have := HL.out.1; omega) (by have := HL.out.2; omega)
      have HEE := Lib.hid (show EncTo xs xs.length E ∧ E.flatten.length ≤ 8000 from ⟨hk ▸ HS.out.2.1, by have := HS.out.2.2; have := HL.out.1; omega⟩)
      have HDA := Lib.hid (show (s ++ rest).data.toList = (E.drop 0).flatten ++ rest.data.toList by rw [ByteArray.data_append, HS.out.1]; simp)
      clear hss hk hlt HS HZ
      go_wp2
      go_loopg [5, 58] xs.length (fun kq v5 v58 w' => ∃ (z : Int) (k2 : Nat) (s2 : ByteArray), v5 = .string s2 ∧ v58 = .int .i64 z ∧ Hid (z = (k2 : Int) ∧ k2 ≤ xs.length ∧ kq = xs.length - k2) ∧ Hid (s2.data.toList = (E.drop k2).flatten ++ rest.data.toList) ∧ Hid (Below w.heap.size w w'))
      case atStart => exact ⟨0, 0, _, rfl, rfl, Lib.hid ⟨rfl, Nat.zero_le _, rfl⟩, HDA, HB⟩
      case round =>
        clear HB HDA hadd q159
        obtain ⟨z, k2, s2, rfl, rfl, HZ, HS, HB⟩ := hrel
        have hs2 : s2.size ≤ 8050 ∧ s2.data.toList.length = s2.size := by
          have h1 : s2.data.toList.length = s2.size := by rw [Array.length_toList]; rfl
          refine ⟨?_, h1⟩
          rw [← h1, HS.out, List.length_append]
          have h4 : (E.drop k2).flatten.length ≤ E.flatten.length := by
            conv => rhs; rw [← List.take_append_drop k2 E, List.flatten_append, List.length_append]
            omega
          have h5 : rest.data.toList.length = rest.size := by rw [Array.length_toList]; rfl
          have := HEE.out.2; have := HL.out.2; omega
        by_cases hlt : k2 < xs.length
        · have p159 : 0 ≤ z := by have := HZ.out; omega
          have q159 : z < (xs.length : Int) := by have := HZ.out; omega
          have hrd : PFnThereBack.rd_T26 xs z = PFnThereBack.rd_T26 xs (k2 : Int) := by rw [HZ.out.1]
          obtain ⟨ad, e159, hx0, hx1, hx2, hx3, hx4, hx5, hx6, hx7, hx8, hx9, hx10⟩ := PFnThereBack.at_T26 HC.out z p159 q159
          cases e159
          replace hx0 := (HB.out.cell (World.block_lt_of_cell? w _ hx0)).trans hx0
          replace hx1 := (HB.out.cell (World.block_lt_of_cell? w _ hx1)).trans hx1
          replace hx2 := (HB.out.cell (World.block_lt_of_cell? w _ hx2)).trans hx2
          replace hx3 := (HB.out.cell (World.block_lt_of_cell? w _ hx3)).trans hx3
          replace hx4 := (HB.out.cell (World.block_lt_of_cell? w _ hx4)).trans hx4
          replace hx5 := (HB.out.cell (World.block_lt_of_cell? w _ hx5)).trans hx5
          replace hx6 := (HB.out.cell (World.block_lt_of_cell? w _ hx6)).trans hx6
          replace hx7 := (HB.out.cell (World.block_lt_of_cell? w _ hx7)).trans hx7
          replace hx8 := (HB.out.cell (World.block_lt_of_cell? w _ hx8)).trans hx8
          replace hx9 := (HB.out.cell (World.block_lt_of_cell? w _ hx9)).trans hx9
          replace hx10 := (HB.out.cell (World.block_lt_of_cell? w _ hx10)).trans hx10
          have hT := HEE.out.1.2 k2 hlt
          rw [← hrd] at hT
          clear hrd
          have hfl := HS.out.trans (flat_cons E k2 (by rw [HEE.out.1.1]; exact hlt) rest.data.toList)
          generalize hge : E.getD k2 [] = e at hT hfl
          clear hge
          have hcl : True := trivial
          replace p159 := eq_true p159
          generalize PFnThereBack.rd_T26 xs z = x at hx0 hx1 hx2 hx3 hx4 hx5 hx6 hx7 hx8 hx9 hx10 hT
          obtain ⟨a0, fl, n, u, b, t, pt, pf, pl_, pi, pn⟩ := x
          dsimp only at hx0 hx1 hx2 hx3 hx4 hx5 hx6 hx7 hx8 hx9 hx10 hcl
          clear hcl
          obtain ⟨qi, qn, hTB, h1, h2⟩ := hT
          have HD := Lib.hid (fun W hE hB => hTB.dec w.heap.size pe pl s2 _ W hfl (by have := hs2.1; omega) hE hB)
          have HO1 := Lib.hid (fun W => laws_codOf.calls a0 fl n u b t pt pf pl_ qi qn a0 fl n u b t pt pf pl_ qi qn W (codOf_eq a0 fl n u b t pt pf pl_ qi qn))
          have HO2 := Lib.hid (fun W => laws_codOf.calls a0 fl n u b t pt pf pl_ pi pn a0 fl n u b t pt pf pl_ pi pn W (codOf_eq a0 fl n u b t pt pf pl_ pi pn))
          have HBK := Lib.hid (fun W => PFnThereBack.laws_codBack.calls a0 fl n u b t pt pf pl_ pi pn a0 fl n u b t pt pf pl_ qi qn W (back_f a0 fl n u b t pt pf pl_ pi pn qi qn h1 h2))
          have qe := eqV37 a0 fl n u b t pt pf pl_ qi qn
          obtain ⟨m, hm⟩ : ∃ m, e.length = m := ⟨_, rfl⟩
          have hml : m ≤ s2.size := by rw [← hs2.2, hfl, List.length_append, hm]; omega
          have r1 : (m : Int) ≤ (s2.size : Int) := by omega
          have r2 : ¬ (s2.size : Int) < (m : Int) := by omega
          have r3 : ¬ (m : Int) < 0 := by omega
          have r4 : (0 : Int) ≤ (m : Int) := by omega
          obtain ⟨s3, hs3⟩ : ∃ s3, s2.extract m s2.size = s3 := ⟨_, rfl⟩
          have HS3 := Lib.hid (show s3.data.toList = (E.drop (k2 + 1)).flatten ++ rest.data.toList by rw [← hs3, drop_strT, hfl, ← hm, List.drop_left])
          dsimp only at HD
          rw [hm] at HD
          clear hTB h1 h2 hfl hm hs2 hlt
          go_wp2_with (go_at_call 20; go_loud ((with_reducible refine (HD.out _ (HE.out.below (below_alloc HB.out (.cells #[.int .i64 a0, .bool fl, .int .i64 n, .int .u64 u, .int .u64 b, .string t, .int .i64 pt, .bool pf, .bool pl_, .int .i64 pi, .int .i64 pn] 26))) (below_alloc HB.out (.cells #[.int .i64 a0, .bool fl, .int .i64 n, .int .u64 u, .int .u64 b, .string t, .int .i64 pt, .bool pf, .bool pl_, .int .i64 pi, .int .i64 pn] 26)).size).mono ?_); rintro e_ w2 ⟨rfl, hb⟩; have HX2 := Lib.hid (blk_below (heap_alloc_new wr (.cells #[.int .i64 a0, .bool fl, .int .i64 n, .int .u64 u, .int .u64 b, .string t, .int .i64 pt, .bool pf, .bool pl_, .int .i64 pi, .int .i64 pn] 26)) hb); have HB2 := Lib.hid (below_then (below_alloc HB.out (.cells #[.int .i64 a0, .bool fl, .int .i64 n, .int .u64 u, .int .u64 b, .string t, .int .i64 pt, .bool pf, .bool pl_, .int .i64 pi, .int .i64 pn] 26)) (below_alloc HB.out (.cells #[.int .i64 a0, .bool fl, .int .i64 n, .int .u64 u, .int .u64 b, .string t, .int .i64 pt, .bool pf, .bool pl_, .int .i64 pi, .int .i64 pn] 26)).size hb); clear hb hx0 hx1 hx2 hx3 hx4 hx5 hx6 hx7 hx8 hx9 hx10))
          have KD : DS2 w wr.heap.size w2.heap.size #[.int .i64 a0, .bool fl, .int .i64 n, .int .u64 u, .int .u64 b, .string t, .int .i64 pt, .bool pf, .bool pl_, .int .i64 pi, .int .i64 pn] #[.int .i64 a0, .bool fl, .int .i64 n, .int .u64 u, .int .u64 b, .string t, .int .i64 pt, .bool pf, .bool pl_, .int .i64 qi, .int .i64 qn] (w2.alloc (.cells #[.int .i64 a0, .bool fl, .int .i64 n, .int .u64 u, .int .u64 b, .string t, .int .i64 pt, .bool pf, .bool pl_, .int .i64 qi, .int .i64 qn] 26)).drew := ⟨blk_drew (blk_alloc HX2.out _), blk_drew (heap_alloc_new w2 _), below_drew (below_alloc HB2.out _)⟩
          have K0 := DS2.of KD
          have HK := Lib.hid KD
          clear KD HX2
          go_region_held3 (fun w' => w'.cell? ⟨wr.heap.size, 0, none⟩ = some (.int .i64 a0) ∧ w'.cell? ⟨wr.heap.size, 1, none⟩ = some (.bool fl) ∧ w'.cell? ⟨wr.heap.size, 2, none⟩ = some (.int .i64 n) ∧ w'.cell? ⟨wr.heap.size, 3, none⟩ = some (.int .u64 u) ∧ w'.cell? ⟨wr.heap.size, 4, none⟩ = some (.int .u64 b) ∧ w'.cell? ⟨wr.heap.size, 5, none⟩ = some (.string t) ∧ w'.cell? ⟨wr.heap.size, 6, none⟩ = some (.int .i64 pt) ∧ w'.cell? ⟨wr.heap.size, 7, none⟩ = some (.bool pf) ∧ w'.cell? ⟨wr.heap.size, 8, none⟩ = some (.bool pl_) ∧ w'.cell? ⟨wr.heap.size, 9, none⟩ = some (.int .i64 pi) ∧ w'.cell? ⟨wr.heap.size, 10, none⟩ = some (.int .i64 pn) ∧ w'.cell? ⟨w2.heap.size, 0, none⟩ = some (.int .i64 a0) ∧ w'.cell? ⟨w2.heap.size, 1, none⟩ = some (.bool fl) ∧ w'.cell? ⟨w2.heap.size, 2, none⟩ = some (.int .i64 n) ∧ w'.cell? ⟨w2.heap.size, 3, none⟩ = some (.int .u64 u) ∧ w'.cell? ⟨w2.heap.size, 4, none⟩ = some (.int .u64 b) ∧ w'.cell? ⟨w2.heap.size, 5, none⟩ = some (.string t) ∧ w'.cell? ⟨w2.heap.size, 6, none⟩ = some (.int .i64 pt) ∧ w'.cell? ⟨w2.heap.size, 7, none⟩ = some (.bool pf) ∧ w'.cell? ⟨w2.heap.size, 8, none⟩ = some (.bool pl_) ∧ w'.cell? ⟨w2.heap.size, 9, none⟩ = some (.int .i64 qi) ∧ w'.cell? ⟨w2.heap.size, 10, none⟩ = some (.int .i64 qn) ∧ Aside0 (DS2 w wr.heap.size w2.heap.size #[.int .i64 a0, .bool fl, .int .i64 n, .int .u64 u, .int .u64 b, .string t, .int .i64 pt, .bool pf, .bool pl_, .int .i64 pi, .int .i64 pn] #[.int .i64 a0, .bool fl, .int .i64 n, .int .u64 u, .int .u64 b, .string t, .int .i64 pt, .bool pf, .bool pl_, .int .i64 qi, .int .i64 qn] w')) (assumption) (first | (go_at_call 25; first | ((with_reducible refine (HO1.out _).mono ?_); rintro e_ w3 ⟨rfl, hb⟩; have HK3 := Lib.hid (DS2.step HK.out hb); have K3 := DS2.of HK3.out; clear hb) | ((with_reducible refine (HO2.out _).mono ?_); rintro e_ w4 ⟨rfl, hb⟩; have HK4 := Lib.hid (DS2.step HK3.out hb); have K4 := DS2.of HK4.out; clear hb)) | (go_at_call 31; go_loud ((with_reducible refine (HBK.out _).mono ?_); rintro e_ w5 ⟨rfl, hb⟩; have HK5 := Lib.hid (DS2.step HK4.out hb); have K5 := DS2.of HK5.out; clear hb)))
          all_goals
            have HB5 := Lib.hid HK5.out.2.2
            go_wp2
            go_roundg (xs.length - (k2 + 1))
            case measure => have := HZ.out; have := of_eq_true p159; omega
            case rel => exact ⟨wrap64 (z + 1), k2 + 1, s3, rfl, rfl, Lib.hid ⟨by have := HZ.out; have := HL.out; unfold wrap64; omega, by have := HZ.out; omega, rfl⟩, HS3, HB5⟩
        · have hk : k2 = xs.length := by have := HZ.out; omega
          have q159 : ¬ z < (xs.length : Int) := by have := HZ.out; omega
          have hsr : s2 = rest := by
            have h := HS.out
            rw [hk, List.drop_of_length_le (by rw [HEE.out.1.1]; exact Nat.le_refl _), List.flatten_nil, List.nil_append] at h
            cases s2; cases rest; simp only at h; congr 1; exact Array.toList_inj.1 h
          subst hsr
          clear hk hlt HS HZ hs2
          go_wp2_with (go_at_call 21; (with_reducible refine (awake_any w.heap.size pe pl _ (HE.out.below HB.out) HB.out.size).mono ?_); rintro e_ wz ⟨rfl, hb⟩; have HBz := Lib.hid (below_then HB.out HB.out.size hb); clear hb)
          go_ret
          exact ⟨rfl, HBz.out⟩
end Go.Proofs.YtgdbeiadlgkedaaDoor
namespace Go.Proofs.YtgdbeiadlgkedaaDoor.PFnRowHeader
open Go.RowKit Go.Proofs.YtgdbeiadlgkedaaDoorW.PrintWords Go.Proofs.YtgdbeiadlgkedaaDoorW.PrintLast Go.Proofs.YtgdbeiadlgkedaaDoorW.PrintMore
attribute [local go_sem] max2_int min2_int max_two min_two max_three min_three max_four min_four
set_option linter.unusedVariables false
set_option linter.unusedSimpArgs false
def errW : Option Int → Value
  | none => .nilIface
  | some c => .iface 0 (.int .i64 c)
theorem errW_none : errW none = .nilIface := rfl
theorem errW_some (c : Int) : errW (some c) = .iface 0 (.int .i64 c) := rfl
end Go.Proofs.YtgdbeiadlgkedaaDoor.PFnRowHeader
set_option linter.unusedVariables false
set_option linter.unusedSimpArgs false
namespace Go.Proofs.YtgdbeiadlgkedaaDoor
open Go.RowKit
def isN (l : List Bool) (i : Nat) : Bool := l.getD i false
def lastB (l : List Bool) : Nat → Int
  | 0 => -1
  | i + 1 => if isN l i = true then ((i / 8 : Nat) : Int) else lastB l i
end Go.Proofs.YtgdbeiadlgkedaaDoor
set_option linter.unusedVariables false
set_option linter.unusedSimpArgs false
namespace Go.Proofs.YtgdbeiadlgkedaaDoor
open Go.RowKit Go.Deep Go.Proofs.YtgdbeiadlgkedaaDoorW.PrintWords
theorem choose_list {α : Type} {n : Nat} {p : Nat → α → Prop} (h : ∀ i, i < n → ∃ x, p i x) : ∃ xs : List α, xs.length = n ∧ ∀ i x, xs[i]? = some x → p i x := by
  induction n with
  | zero => exact ⟨[], rfl, by simp⟩
  | succ n ih =>
    obtain ⟨xs, hl, hx⟩ := ih (fun i hi => h i (by omega))
    obtain ⟨y, hy⟩ := h n (by omega)
    refine ⟨xs ++ [y], by simp [hl], fun i x hi => ?_⟩
    by_cases hlt : i < xs.length
    · rw [List.getElem?_append_left hlt] at hi; exact hx i x hi
    · rw [List.getElem?_append_right (by omega)] at hi
      have e : i = n := by
        have := (List.getElem?_eq_some_iff.1 hi).1
        simp at this; omega
      subst e
      simp [hl] at hi
      exact hi ▸ hy
theorem open_kd {α H : Type} {enc : TypeId × Value → H} {P : Program} {W : World} {sp : Nat → Bool} {held : Bool} (d : Kd α) {Good : α → Prop} {t e : TypeId} (ht : P.underlying t = some (.slice e)) (hce : P.cellsOf e = d.sz)
    (hel : ∀ n cs x, cs.length = d.sz → DataW.trod enc P W 0 sp held n e cs = some x → ∃ a : α, d.K W a cs ∧ Good a)
    {A0 : Option Addr} {n0 c0 : Nat} {ds : DataW H} {ps : List MemPlace} (h : DataW.Trod enc P W 0 sp held t (.slice A0 n0 c0) ds ps) :
    ∃ xs : List α, n0 = xs.length ∧ xs.length ≤ c0 ∧ d.C W A0 xs.length xs ∧ ∀ x ∈ xs, Good x := by
  obtain ⟨fuel, hf⟩ := h
  rcases open_slice ht hf with ⟨hcs, _⟩ | ⟨a, len, cap, m, n, D, Pl, hcs, hb, hl, hm, hmm, hx, hall⟩
  · simp [Value.cells] at hcs
    obtain ⟨rfl, rfl, rfl⟩ := hcs
    exact ⟨[], rfl, Nat.le_refl _, Kd.C_nil d W, by simp⟩
  · simp [Value.cells] at hcs
    obtain ⟨rfl, rfl, rfl⟩ := hcs
    have hlm : n0 ≤ m := by rw [hmm]; split <;> omega
    have each : ∀ i, i < n0 → ∃ x : α, Good x ∧ ∃ c, c.length = d.sz ∧ d.K W x c ∧ ∀ j u, c[j]? = some u → W.cell? (a.add (i * d.sz + j)) = some u := by
      intro i hi
      obtain ⟨cs', h1, h2⟩ := hall i (by omega)
      rw [hce] at h1
      obtain ⟨_, hlen, hcell⟩ := World.cells?_some h1
      obtain ⟨x, hK, hG⟩ := hel _ _ _ hlen h2
      refine ⟨x, hG, cs', hlen, hK, fun j u hu => ?_⟩
      have hj : j < d.sz := by rw [← hlen]; exact (List.getElem?_eq_some_iff.1 hu).1
      rw [← Deep.add_add, hcell j hj]; exact hu
    obtain ⟨xs, hxl, hxs⟩ := choose_list each
    refine ⟨xs, hxl.symm, by omega, ⟨rfl, ?_, fun _ => ⟨a, rfl, fun j p hj => (hxs j p hj).2⟩⟩, fun x hx => ?_⟩
    · have : maxLen ≤ 9223372036854775807 := by decide
      omega
    · obtain ⟨i, hi⟩ := List.getElem?_of_mem hx
      exact (hxs i x hi).1
end Go.Proofs.YtgdbeiadlgkedaaDoor
set_option linter.unusedVariables false
set_option linter.unusedSimpArgs false
namespace Go.Proofs.YtgdbeiadlgkedaaDoor
open Go.Joins Go.ChangeShapes Go.WideShapes Go.RowKit Go.Deep PFnEncode Go.Proofs.YtgdbeiadlgkedaaDoorW.PrintWords
theorem there_row (pe pl : Addr) (A0 : Option Addr) (c0 : Nat) (xs : List PFnThereBack.S26) (rest : ByteArray) (w : World) (he : Env w.heap.size pe pl w) (hC : Kd.C PFnThereBack.k26 w A0 xs.length xs) (hc0 : xs.length ≤ c0) (hr : ∀ x ∈ xs, Rng x) :
    Calls Tryd.prog 8 #[.slice A0 xs.length c0, .string rest] w fun e w' => e = .returned (.bool true) ∧ Below w.heap.size w w' := by
  obtain ⟨k, c, hf⟩ := fits2_some xs
  cases c with
  | false => exact there_unfit pe pl A0 c0 xs rest w he hC hc0 k hf
  | true =>
    by_cases h : 2147483647 < rest.size
    · exact there_long pe pl A0 c0 xs rest w he hC hc0 k hf h
    by_cases h2 : 20 < xs.length
    · exact there_many pe pl A0 c0 xs rest w he hC hc0 k hf h h2
    by_cases h3 : 50 < rest.size
    · exact there_much pe pl A0 c0 xs rest w he hC hc0 k hf h h2 h3
    exact there_ok pe pl A0 c0 xs rest w he hC hc0 k hf hr (by omega) (by omega)
theorem open_vals {H : Type} {enc : TypeId × Value → H} {W : World} {sp : Nat → Bool} {held : Bool} {A0 : Option Addr} {n0 c0 : Nat} {ds : DataW H} {ps : List MemPlace} (h : DataW.Trod enc Tryd.prog W 0 sp held 49 (.slice A0 n0 c0) ds ps) :
    ∃ xs : List PFnThereBack.S26, n0 = xs.length ∧ xs.length ≤ c0 ∧ Kd.C PFnThereBack.k26 W A0 xs.length xs ∧ ∀ x ∈ xs, Rng x :=
  open_kd (Good := Rng) PFnThereBack.k26 Tryd.underlying49 (by kernel_rfl) (fun n cs x hl hx => by
    obtain ⟨a0, a1, a2, a3, a4, a5, a6, a7, a8, a9, a10, rfl, w0, w2, w3, w4, w6, w9, w10⟩ := read_val hl hx
    exact ⟨⟨a0, a1, a2, a3, a4, a5, ⟨a6, a7, a8, a9, a10⟩⟩, PFnThereBack.k26_mk _ ⟨a0, a1, a2, a3, a4, a5, ⟨a6, a7, a8, a9, a10⟩⟩, i64_rng w2, u64_rng w3, u64_rng w4, i64_rng w9, i64_rng w10⟩) h
end Go.Proofs.YtgdbeiadlgkedaaDoor
