/- That a value's state is awake. -/
import Derived.Test.YtoigekmdicepnaaSh
set_option linter.unusedVariables false
set_option linter.unusedSimpArgs false
namespace Go.Proofs.Ytoigekmdicepnaa
open Go.RowKit Go.Proofs.YtoigekmdicepnaaW.PrintWords Go.Proofs.YtoigekmdicepnaaW.PrintLast Go.Proofs.YtoigekmdicepnaaW.PrintMore
open PFnMapState (S26 k26 S36 k36 k26_open k36_mkM k36_open z26 z36)

theorem valueRun_any (has : Bool) (val : Int) (A0 : Option Addr) (c0 : Nat) (l : List S26) (w : World) (hC : Kd.C k26 w A0 l.length l) (hop : ∀ k, k < l.length → opV (rdP l k)) (hl : l.length ≤ 1000) :
    Calls Try.prog 14 #[.bool has, .int .i64 val, .slice A0 l.length c0] w fun e w' => ∃ A c, e = .returned (.slice A (ansV l (if has then some val else none)).length c) ∧ (ansV l (if has then some val else none)).length ≤ c ∧ Kd.C k36 w' A (ansV l (if has then some val else none)).length (ansV l (if has then some val else none)) ∧ Below w.heap.size w w' := by
  have fin : ∀ {e : Ending} {w' : World} {xs : List S36}, (∃ v, e = .returned v ∧ Kd.R k36 36 w' w.heap.size (fun _ => True) v xs ∧ Below w.heap.size w w') → ∃ A c, e = .returned (.slice A xs.length c) ∧ xs.length ≤ c ∧ Kd.C k36 w' A xs.length xs ∧ Below w.heap.size w w' := by
    rintro e w' xs ⟨v, rfl, hR, hb⟩
    obtain ⟨A, c, rfl, hc, hC⟩ := Kd.R_reads hR
    exact ⟨A, c, rfl, hc, hC, hb⟩
  cases has
  · exact (valueRun_f val A0 c0 l w hC hop hl).mono fun e w' h => fin h
  · exact (valueRun_t val A0 c0 l w hC hop hl).mono fun e w' h => fin h
/-- A literal row of structs, read: its cells one behind the other. -/
theorem Ck26_lit {w : World} {g : Nat} {cs : Array Value} {xs : List S26} (h : w.heap[g]? = some (.cells cs 26 (0, 0))) (hcs : cs.toList = xs.flatMap fun s => [.int .i64 s.f0, .string s.f1, .int .i64 s.f2, .int .i64 s.f3, .int .i64 s.f4]) (hn : xs.length ≤ 1000) : Kd.C k26 w (some ⟨g, 0, none⟩) xs.length xs := by
  refine ⟨rfl, by omega, fun _ => ⟨⟨g, 0, none⟩, rfl, fun j p hp => ⟨_, rfl, PFnMapState.k26_mk w p, fun i u hu => ?_⟩⟩⟩
  have key : ∀ (xs : List S26) (j : Nat), xs[j]? = some p → (xs.flatMap fun s => [Value.int .i64 s.f0, .string s.f1, .int .i64 s.f2, .int .i64 s.f3, .int .i64 s.f4])[j * 5 + i]? = some u := by
    intro xs
    induction xs with
    | nil => intro j hj; simp at hj
    | cons a l ih =>
      intro j hj
      have hi5 : i < 5 := (List.getElem?_eq_some_iff.1 hu).1
      cases j with
      | zero =>
        obtain rfl : a = p := by simpa using hj
        rw [List.flatMap_cons, Nat.zero_mul, Nat.zero_add, List.getElem?_append_left (by simpa using hi5)]
        exact hu
      | succ j =>
        rw [List.flatMap_cons, List.getElem?_append_right (by simp; omega)]
        have := ih j (by simpa using hj)
        simp only [List.length_cons, List.length_nil]
        rw [show (j + 1) * 5 + i - (0 + 1 + 1 + 1 + 1 + 1) = j * 5 + i by omega]
        exact this
  rw [add_plain, blk_cell h, ← Array.getElem?_toList, hcs]
  exact key xs j hp
theorem C_int_lit {w : World} {g : Nat} {cs : Array Value} {xs : List Int} (h : w.heap[g]? = some (.cells cs 2 (0, 0))) (hcs : cs.toList = xs.map (Value.int .i64)) (hn : xs.length ≤ 1000) : (Kd.int .i64).C w (some ⟨g, 0, none⟩) xs.length xs := by
  refine ⟨rfl, by omega, fun _ => ⟨⟨g, 0, none⟩, rfl, fun j p hp => ⟨[.int .i64 p], rfl, rfl, fun i u hu => ?_⟩⟩⟩
  have hi : i = 0 := by
    by_cases hi : i = 0
    · exact hi
    · rw [List.getElem?_eq_none (by simp; omega)] at hu; cases hu
  subst hi
  have hu' : Value.int .i64 p = u := by simpa using hu
  subst hu'
  rw [add_plain, blk_cell h]
  have e1 : cs[j * (Kd.int .i64).sz + 0]? = cs.toList[j]? := by rw [Array.getElem?_toList]; show cs[j * 1 + 0]? = _; rw [Nat.mul_one, Nat.add_zero]
  rw [e1, hcs, List.getElem?_map, hp]
  rfl
theorem same_eq (l : List Int) (A0 : Option Addr) (c0 : Nat) (A1 : Option Addr) (c1 : Nat) (w : World) (h0 : (Kd.int .i64).C w A0 l.length l) (q0 : l.length ≤ c0) (h1 : (Kd.int .i64).C w A1 l.length l) (q1 : l.length ≤ c1) (hl : l.length ≤ 2147483647) :
    Calls Try.prog 17 #[.slice A0 l.length c0, .slice A1 l.length c1] w fun e w' => e = .returned (.bool true) ∧ Below w.heap.size w w' :=
  (PFnMapState.spec_StateSame.calls _ A0 c0 l A1 c1 l true w h0 q0 h1 q1 (same_self l hl)).mono fun _ _ h => ⟨h.1, h.2.below⟩
def awk : List S26 := [⟨0, ByteArray.empty, 7, 0, 0⟩, ⟨2, ByteArray.empty, 0, 0, 0⟩]
theorem awk_ans : ansV awk none = [⟨true, [7], [], []⟩] := rfl
set_option maxRecDepth 100000 in
set_option maxHeartbeats 1000000 in
theorem stateAwake_any (w : World) : Calls Try.prog 13 #[] w fun e w' => e = .returned (.bool true) ∧ Below w.heap.size w w' := by
  have HC := Aside0.mk (Ck26_lit (xs := awk) (heap_alloc_new w (.cells #[.int .i64 0, .string ByteArray.empty, .int .i64 7, .int .i64 0, .int .i64 0, .int .i64 2, .string ByteArray.empty, .int .i64 0, .int .i64 0, .int .i64 0] 26)) rfl (by decide))
  have HOP := Aside0.mk (show ∀ k, k < awk.length → opV (rdP awk k) from fun k hk => by
    rcases (show k = 0 ∨ k = 1 by have : awk.length = 2 := rfl; omega) with rfl | rfl
    · exact .inl rfl
    · exact .inr (.inr rfl))
  have HB0 := Aside0.mk (below_alloc (Below.refl w.heap.size w) (.cells #[.int .i64 0, .string ByteArray.empty, .int .i64 7, .int .i64 0, .int .i64 0, .int .i64 2, .string ByteArray.empty, .int .i64 0, .int .i64 0, .int .i64 0] 26))
  go_enter Try.func13, Try.ntmps13
  go_wp2_with (first
    | (go_at_call 14; refine (valueRun_any false 0 _ 2 awk _ HC.out HOP.out (by decide)).mono ?_; rintro e_ w1 ⟨A, c, rfl, hc, hC, hb⟩; have HB := Aside0.mk (below_then HB0.out HB0.out.size hb); simp only [awk_ans, Bool.false_eq_true, if_false] at hC hc ⊢; obtain ⟨ad, A1, c1, A2, c2, A3, c3, ea, x0, x1, x2, x3, q1, g1, _⟩ := PFnMapState.at_T36 hC 0 (by omega) (by decide); subst ea; simp only [Int.toNat_zero, Nat.zero_mul, Addr.add_zero', PFnMapState.rd_T36, List.getD_cons_zero] at x0 x1 x2 x3 q1 g1; have G1 := Aside0.mk g1; have Q1 := Aside0.mk q1; clear hC hc hb x2 x3 g1 q1)
    | (go_at_call 17; refine (same_eq [7] A1 c1 _ 1 _ ?sa Q1.out ?sb (by decide) (by decide)).mono ?_; (case sa => exact Kd.C_below G1.out (below_alloc (Below.refl _ _) _)); (case sb => exact C_int_lit (heap_alloc_new _ _) rfl (by decide)); rintro e_ w3 ⟨rfl, hb⟩; have HB3 := Aside0.mk (below_then HB.out HB.out.size (below_then (below_alloc (Below.refl w1.heap.size w1) (.cells #[.int .i64 7] 2)) (by simp) hb)); clear hb))
  go_ret
  exact ⟨rfl, HB3.out⟩
end Go.Proofs.Ytoigekmdicepnaa
