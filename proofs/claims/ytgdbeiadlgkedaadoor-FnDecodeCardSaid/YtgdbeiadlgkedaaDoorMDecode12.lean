/- Contracts and plain laws, several texts in one. -/
import Derived.Test.YtgdbeiadlgkedaaDoorMDecode7
import Derived.Deep.RegionHeld3
set_option linter.unusedVariables false
set_option linter.unusedSimpArgs false
namespace Go.Proofs.YtgdbeiadlgkedaaDoor
open Go.RowKit PFnEncode Go.Proofs.YtgdbeiadlgkedaaDoorW.PrintWords Go.Proofs.YtgdbeiadlgkedaaDoorW.PrintLast Go.Proofs.YtgdbeiadlgkedaaDoorW.PrintMore
theorem eqA35 (d : Nat) (w : World) (x0 y0 : Int) (x1 y1 : Bool) (x2 y2 : Bool) (x3 y3 : Int) (x4 y4 : Int) :
    (Op.equalIn (d + 2) 35 (.agg #[.int .i64 x0, .bool x1, .bool x2, .int .i64 x3, .int .i64 x4]) (.agg #[.int .i64 y0, .bool y1, .bool y2, .int .i64 y3, .int .i64 y4])).run Tryd.prog w = .ok (x0 == y0 && (x1 == y1 && (x2 == y2 && (x3 == y3 && (x4 == y4))))) w := by
  refine eqA_of Tryd.underlying35 (by kernel_rfl) ?_
  refine eqf_cons (by rfl) (by go_simp; rfl) (by go_simp; rfl) (by go_simp) ?_
  refine eqf_cons (by rfl) (by go_simp; rfl) (by go_simp; rfl) (by go_simp) ?_
  refine eqf_cons (by rfl) (by go_simp; rfl) (by go_simp; rfl) (by go_simp) ?_
  refine eqf_cons (by rfl) (by go_simp; rfl) (by go_simp; rfl) (by go_simp) ?_
  exact eqf_last (by rfl) (by go_simp; rfl) (by go_simp; rfl) (by go_simp)
theorem eqA37 (d : Nat) (w : World) (x0 y0 : Int) (x1 y1 : Bool) (x2 y2 : Int) (x3 y3 : Int) (x4 y4 : Int) (x5 y5 : ByteArray) (x6 y6 : Int) (x7 y7 : Bool) (x8 y8 : Bool) (x9 y9 : Int) (x10 y10 : Int) :
    (Op.equalIn (d + 3) 37 (.agg #[.int .i64 x0, .bool x1, .int .i64 x2, .int .u64 x3, .int .u64 x4, .string x5, .int .i64 x6, .bool x7, .bool x8, .int .i64 x9, .int .i64 x10]) (.agg #[.int .i64 y0, .bool y1, .int .i64 y2, .int .u64 y3, .int .u64 y4, .string y5, .int .i64 y6, .bool y7, .bool y8, .int .i64 y9, .int .i64 y10])).run Tryd.prog w = .ok (x0 == y0 && (x1 == y1 && (x2 == y2 && (x3 == y3 && (x4 == y4 && (x5.toList == y5.toList && ((x6 == y6 && (x7 == y7 && (x8 == y8 && (x9 == y9 && (x10 == y10)))))))))))) w := by
  refine eqA_of Tryd.underlying37 (by kernel_rfl) ?_
  refine eqf_cons (by rfl) (by go_simp; rfl) (by go_simp; rfl) (by go_simp) ?_
  refine eqf_cons (by rfl) (by go_simp; rfl) (by go_simp; rfl) (by go_simp) ?_
  refine eqf_cons (by rfl) (by go_simp; rfl) (by go_simp; rfl) (by go_simp) ?_
  refine eqf_cons (by rfl) (by go_simp; rfl) (by go_simp; rfl) (by go_simp) ?_
  refine eqf_cons (by rfl) (by go_simp; rfl) (by go_simp; rfl) (by go_simp) ?_
  refine eqf_cons (by rfl) (by go_simp; rfl) (by go_simp; rfl) (by go_simp) ?_
  exact eqf_last (by rfl) (by go_simp) (by go_simp) (eqA35 (d + 0) w _ _ _ _ _ _ _ _ _ _)
theorem eqV37 (a0 : Int) (fl : Bool) (n u b : Int) (tx : ByteArray) (pt : Int) (pf pl_ : Bool) (pi pn : Int) : ∀ W : World, (Op.equalIn 10000 37 (.agg #[(.int .i64 a0), (.bool fl), (.int .i64 n), (.int .u64 u), (.int .u64 b), (.string tx), (.int .i64 pt), (.bool pf), (.bool pl_), (.int .i64 pi), (.int .i64 pn)]) (.agg #[(.int .i64 a0), (.bool fl), (.int .i64 n), (.int .u64 u), (.int .u64 b), (.string tx), (.int .i64 pt), (.bool pf), (.bool pl_), (.int .i64 pi), (.int .i64 pn)])).run Tryd.prog W = .ok true W := by
  intro W
  have h := eqA37 9997 W a0 a0 fl fl n n u u b b tx tx pt pt pf pf pl_ pl_ pi pi pn pn
  simp only [beq_self_eq_true, Bool.and_true, Bool.and_self] at h
  exact h
def DS (w0 : World) (b6 b7 : Nat) (c6 c7 : Array Value) (w' : World) : Prop := w'.heap[b6]? = some (.cells c6 41 (0, 0)) ∧ w'.heap[b7]? = some (.cells c7 26 (0, 0)) ∧ Below w0.heap.size w0 w'
theorem DS.step {w0 x y : World} {b6 b7 : Nat} {c6 c7 : Array Value} (h : DS w0 b6 b7 c6 c7 x) (hb : Below x.heap.size x y) : DS w0 b6 b7 c6 c7 y := ⟨blk_below h.1 hb, blk_below h.2.1 hb, below_then h.2.2 h.2.2.size hb⟩
def DT (w0 : World) (b6 b7 : Nat) (c0 c1 c2 c3 c4 c5 c6 c7 c8 c9 c10 c11 c12 d0 d1 d2 d3 d4 d5 d6 d7 d8 d9 d10 : Value) (w' : World) : Prop := w'.cell? ⟨b6, 0, none⟩ = some c0 ∧ w'.cell? ⟨b6, 1, none⟩ = some c1 ∧ w'.cell? ⟨b6, 2, none⟩ = some c2 ∧ w'.cell? ⟨b6, 3, none⟩ = some c3 ∧ w'.cell? ⟨b6, 4, none⟩ = some c4 ∧ w'.cell? ⟨b6, 5, none⟩ = some c5 ∧ w'.cell? ⟨b6, 6, none⟩ = some c6 ∧ w'.cell? ⟨b6, 7, none⟩ = some c7 ∧ w'.cell? ⟨b6, 8, none⟩ = some c8 ∧ w'.cell? ⟨b6, 9, none⟩ = some c9 ∧ w'.cell? ⟨b6, 10, none⟩ = some c10 ∧ w'.cell? ⟨b6, 11, none⟩ = some c11 ∧ w'.cell? ⟨b6, 12, none⟩ = some c12 ∧ w'.cell? ⟨b7, 0, none⟩ = some d0 ∧ w'.cell? ⟨b7, 1, none⟩ = some d1 ∧ w'.cell? ⟨b7, 2, none⟩ = some d2 ∧ w'.cell? ⟨b7, 3, none⟩ = some d3 ∧ w'.cell? ⟨b7, 4, none⟩ = some d4 ∧ w'.cell? ⟨b7, 5, none⟩ = some d5 ∧ w'.cell? ⟨b7, 6, none⟩ = some d6 ∧ w'.cell? ⟨b7, 7, none⟩ = some d7 ∧ w'.cell? ⟨b7, 8, none⟩ = some d8 ∧ w'.cell? ⟨b7, 9, none⟩ = some d9 ∧ w'.cell? ⟨b7, 10, none⟩ = some d10 ∧ Aside0 (DS w0 b6 b7 #[c0, c1, c2, c3, c4, c5, c6, c7, c8, c9, c10, c11, c12] #[d0, d1, d2, d3, d4, d5, d6, d7, d8, d9, d10] w')
theorem DT.of {w0 x : World} {b6 b7 : Nat} {c0 c1 c2 c3 c4 c5 c6 c7 c8 c9 c10 c11 c12 d0 d1 d2 d3 d4 d5 d6 d7 d8 d9 d10 : Value} (h : DS w0 b6 b7 #[c0, c1, c2, c3, c4, c5, c6, c7, c8, c9, c10, c11, c12] #[d0, d1, d2, d3, d4, d5, d6, d7, d8, d9, d10] x) : DT w0 b6 b7 c0 c1 c2 c3 c4 c5 c6 c7 c8 c9 c10 c11 c12 d0 d1 d2 d3 d4 d5 d6 d7 d8 d9 d10 x :=
  ⟨(blk_cell h.1 0).trans rfl, (blk_cell h.1 1).trans rfl, (blk_cell h.1 2).trans rfl, (blk_cell h.1 3).trans rfl, (blk_cell h.1 4).trans rfl, (blk_cell h.1 5).trans rfl, (blk_cell h.1 6).trans rfl, (blk_cell h.1 7).trans rfl, (blk_cell h.1 8).trans rfl, (blk_cell h.1 9).trans rfl, (blk_cell h.1 10).trans rfl, (blk_cell h.1 11).trans rfl, (blk_cell h.1 12).trans rfl, (blk_cell h.2.1 0).trans rfl, (blk_cell h.2.1 1).trans rfl, (blk_cell h.2.1 2).trans rfl, (blk_cell h.2.1 3).trans rfl, (blk_cell h.2.1 4).trans rfl, (blk_cell h.2.1 5).trans rfl, (blk_cell h.2.1 6).trans rfl, (blk_cell h.2.1 7).trans rfl, (blk_cell h.2.1 8).trans rfl, (blk_cell h.2.1 9).trans rfl, (blk_cell h.2.1 10).trans rfl, ⟨h⟩⟩
set_option maxHeartbeats 8000000 in
set_option maxRecDepth 100000 in
theorem decode_big (k : Int) (t : ByteArray) (w : World) (h : 2147483647 < t.size) :
    Calls Tryd.prog 5 #[.int .u8 k, .string t] w fun e w' => e = .returned (.bool true) ∧ Below w.heap.size w w' := by
  have h1 : 2147483647 < (t.size : Int) := by omega
  go_enter Tryd.func5, Tryd.ntmps5
  go_wp2
  go_ret
  exact ⟨rfl, Below.refl _ _⟩
set_option maxHeartbeats 8000000 in
set_option maxRecDepth 100000 in
theorem decode_kind (pe pl : Addr) (k : Nat) (hk8 : k < 256) (t : ByteArray) (w : World) (he : Env w.heap.size pe pl w) (hz : ¬ 2147483647 < t.size) (h : 12 < k) :
    Calls Tryd.prog 5 #[.int .u8 k, .string t] w fun e w' => e = .returned (.bool true) ∧ Below w.heap.size w w' := by
  have HE := Lib.hid he
  have q1 : wrap64 (k : Int) = (k : Int) := IntWalk.wrap64_in _ (by omega)
  have q2 : IntKind.i64.wrap (k : Int) = (k : Int) := IntWalk.i64_in _ (by omega)
  have q3 : 12 < (k : Int) := by omega
  have q4 : ¬ 2147483647 < (t.size : Int) := by omega
  clear he hz hk8 h
  go_enter Tryd.func5, Tryd.ntmps5
  go_wp2_with (go_at_call 21; (with_reducible refine (awake_any w.heap.size pe pl w HE.out (Nat.le_refl _)).mono ?_); rintro e_ w4 ⟨rfl, hb⟩; have HB4 := Lib.hid hb; clear hb)
  go_ret
  exact ⟨rfl, HB4.out⟩
set_option maxHeartbeats 8000000 in
set_option maxRecDepth 100000 in
theorem decode_long (pe pl : Addr) (k : Nat) (hk8 : k < 256) (t : ByteArray) (w : World) (he : Env w.heap.size pe pl w) (hz : ¬ 2147483647 < t.size) (hk : k ≤ 12) (h : 400 < t.size) :
    Calls Tryd.prog 5 #[.int .u8 k, .string t] w fun e w' => e = .returned (.bool true) ∧ Below w.heap.size w w' := by
  have HE := Lib.hid he
  have q1 : wrap64 (k : Int) = (k : Int) := IntWalk.wrap64_in _ (by omega)
  have q2 : IntKind.i64.wrap (k : Int) = (k : Int) := IntWalk.i64_in _ (by omega)
  have q3 : ¬ 12 < (k : Int) := by omega
  have q5 : 400 < (t.size : Int) := by omega
  have q4 : ¬ 2147483647 < (t.size : Int) := by omega
  clear he hz hk8 h hk
  go_enter Tryd.func5, Tryd.ntmps5
  go_wp2_with (go_at_call 21; (with_reducible refine (awake_any w.heap.size pe pl w HE.out (Nat.le_refl _)).mono ?_); rintro e_ w4 ⟨rfl, hb⟩; have HB4 := Lib.hid hb; clear hb)
  go_ret
  exact ⟨rfl, HB4.out⟩
set_option maxHeartbeats 8000000 in
set_option maxRecDepth 100000 in
theorem decode_un (pe pl : Addr) (k : Nat) (hk : k ≤ 12) (t : ByteArray) (ht : t.size ≤ 400) (a0 : Int) (fl : Bool) (n u b : Int) (tx : ByteArray) (pt : Int) (pf pl_ : Bool) (pi pn : Int) (sz : Int) (w : World) (he : Env w.heap.size pe pl w) (hw : ∀ W, Calls Tryd.prog 26 #[.int .i64 (k : Int), .string t] W fun e w' => e = .returned (.agg #[(.int .i64 a0), (.bool fl), (.int .i64 n), (.int .u64 u), (.int .u64 b), (.string tx), (.int .i64 pt), (.bool pf), (.bool pl_), (.int .i64 pi), (.int .i64 pn), (.int .i64 sz), (.int .i64 2)]) ∧ Below W.heap.size W w') :
    Calls Tryd.prog 5 #[.int .u8 k, .string t] w fun e w' => e = .returned (.bool true) ∧ Below w.heap.size w w' := by
  have HE := Lib.hid he
  have HW := Lib.hid hw
  have q1 : wrap64 (k : Int) = (k : Int) := IntWalk.wrap64_in _ (by omega)
  have q2 : IntKind.i64.wrap (k : Int) = (k : Int) := IntWalk.i64_in _ (by omega)
  have q3 : ¬ 12 < (k : Int) := by omega
  have q4 : ¬ 2147483647 < (t.size : Int) := by omega
  have q5 : ¬ 400 < (t.size : Int) := by omega
  clear he hw hk ht
  go_enter Tryd.func5, Tryd.ntmps5
  go_wp2_with (first | (go_at_call 26; go_loud ((with_reducible refine (HW.out _).mono ?_); rintro e_ w1 ⟨rfl, hb⟩; have HB1 := Lib.hid (below_alloc hb (.cells #[(.int .i64 a0), (.bool fl), (.int .i64 n), (.int .u64 u), (.int .u64 b), (.string tx), (.int .i64 pt), (.bool pf), (.bool pl_), (.int .i64 pi), (.int .i64 pn), (.int .i64 sz), (.int .i64 2)] 41)); have X1 := heap_alloc_new w1 (.cells #[(.int .i64 a0), (.bool fl), (.int .i64 n), (.int .u64 u), (.int .u64 b), (.string tx), (.int .i64 pt), (.bool pf), (.bool pl_), (.int .i64 pi), (.int .i64 pn), (.int .i64 sz), (.int .i64 2)] 41); have HX1 := Lib.hid X1; clear hb X1)) | (go_at_call 21; (with_reducible refine (awake_any w.heap.size pe pl _ (HE.out.below HB1.out) HB1.out.size).mono ?_); rintro e_ w4 ⟨rfl, hb⟩; have HB4 := Lib.hid (below_then HB1.out HB1.out.size hb); clear hb))
  go_ret
  exact ⟨rfl, HB4.out⟩
set_option maxHeartbeats 8000000 in
set_option maxRecDepth 100000 in
theorem decode_wrong (pe pl : Addr) (k : Nat) (hk : k ≤ 12) (t : ByteArray) (ht : t.size ≤ 400) (a0 : Int) (fl : Bool) (n u b : Int) (tx : ByteArray) (pt : Int) (pf pl_ : Bool) (pi pn : Int) (sz : Int) (w : World) (he : Env w.heap.size pe pl w) (hw : ∀ W, Calls Tryd.prog 26 #[.int .i64 (k : Int), .string t] W fun e w' => e = .returned (.agg #[(.int .i64 a0), (.bool fl), (.int .i64 n), (.int .u64 u), (.int .u64 b), (.string tx), (.int .i64 pt), (.bool pf), (.bool pl_), (.int .i64 pi), (.int .i64 pn), (.int .i64 sz), (.int .i64 1)]) ∧ Below W.heap.size W w') (hd : ∀ W, Env w.heap.size pe pl W → w.heap.size ≤ W.heap.size → Calls Tryd.prog 20 #[.int .i64 (k : Int), .string t] W fun e w' => ∃ (i' : Nat) (s : ByteArray) (g0 : Int) (gf : Bool) (gn gu gb : Int) (gt : ByteArray) (gp : Int) (gq gr : Bool) (gi gm : Int), e = .returned (.tuple #[.agg #[.int .i64 g0, .bool gf, .int .i64 gn, .int .u64 gu, .int .u64 gb, .string gt, .int .i64 gp, .bool gq, .bool gr, .int .i64 gi, .int .i64 gm], .int .i64 i', .string s]) ∧ i' ≤ t.size ∧ s.data.toList ≠ [] ∧ Below W.heap.size W w') :
    Calls Tryd.prog 5 #[.int .u8 k, .string t] w fun e w' => e = .returned (.bool true) ∧ Below w.heap.size w w' := by
  have HE := Lib.hid he
  have HW := Lib.hid hw
  have q1 : wrap64 (k : Int) = (k : Int) := IntWalk.wrap64_in _ (by omega)
  have q2 : IntKind.i64.wrap (k : Int) = (k : Int) := IntWalk.i64_in _ (by omega)
  have q3 : ¬ 12 < (k : Int) := by omega
  have q4 : ¬ 2147483647 < (t.size : Int) := by omega
  have q5 : ¬ 400 < (t.size : Int) := by omega
  have HD := Lib.hid hd
  clear he hw hd hk ht
  go_enter Tryd.func5, Tryd.ntmps5
  go_wp2_with (first | (go_at_call 26; go_loud ((with_reducible refine (HW.out _).mono ?_); rintro e_ w1 ⟨rfl, hb⟩; have HB1 := Lib.hid (below_alloc hb (.cells #[(.int .i64 a0), (.bool fl), (.int .i64 n), (.int .u64 u), (.int .u64 b), (.string tx), (.int .i64 pt), (.bool pf), (.bool pl_), (.int .i64 pi), (.int .i64 pn), (.int .i64 sz), (.int .i64 1)] 41)); have X1 := heap_alloc_new w1 (.cells #[(.int .i64 a0), (.bool fl), (.int .i64 n), (.int .u64 u), (.int .u64 b), (.string tx), (.int .i64 pt), (.bool pf), (.bool pl_), (.int .i64 pi), (.int .i64 pn), (.int .i64 sz), (.int .i64 1)] 41); have HX1 := Lib.hid X1; clear hb X1)) | (go_at_call 20; go_loud ((with_reducible refine (HD.out _ (HE.out.below HB1.out) HB1.out.size).mono ?_); rintro e_ w2 ⟨i', s, g0, gf, gn, gu, gb, gt, gp, gq, gr, gi, gm, rfl, hi, hse, hb⟩; have HB2 := Lib.hid (below_then HB1.out HB1.out.size hb); have X2 := blk_below HX1.out hb; have hlt := blk_lt X2; have p12 : w2.cell? ⟨w1.heap.size, 12, none⟩ = some (.int .i64 1) := (blk_cell X2 12).trans rfl; have hi2 : (i' : Int) ≤ (t.size : Int) := Int.ofNat_le.2 hi; have hs2 : s.toList.isEmpty = false := (by rw [ByteArray.toList_eq]; cases h : s.data.toList with | nil => exact absurd h hse | cons a b => rfl); have hs1 : ¬ s = ⟨#[]⟩ := (fun e => hse (by rw [e])); have hi3 : (0 : Int) ≤ (i' : Int) := Int.natCast_nonneg _; clear hb X2 hi hse)) | (go_at_call 21; go_loud ((with_reducible refine (awake_any w.heap.size pe pl _ (HE.out.below (below_alloc HB2.out _)) (by have := HB2.out.size; rw [World.size_alloc]; omega)).mono ?_); rintro e_ w4 ⟨rfl, hb⟩; have HB4 := Lib.hid (below_then (below_alloc HB2.out _) (by have := HB2.out.size; rw [World.size_alloc]; omega) hb); clear hb)))
  go_ret
  exact ⟨rfl, HB4.out⟩
set_option maxHeartbeats 8000000 in
set_option maxRecDepth 100000 in
theorem decode_ok (pe pl : Addr) (k : Nat) (hk : k ≤ 12) (t : ByteArray) (ht : t.size ≤ 400) (a0 : Int) (fl : Bool) (n u b : Int) (tx : ByteArray) (pt : Int) (pf pl_ : Bool) (pi pn : Int) (sz : Nat) (w : World) (he : Env w.heap.size pe pl w) (hw : ∀ W, Calls Tryd.prog 26 #[.int .i64 (k : Int), .string t] W fun e w' => e = .returned (.agg #[(.int .i64 a0), (.bool fl), (.int .i64 n), (.int .u64 u), (.int .u64 b), (.string tx), (.int .i64 pt), (.bool pf), (.bool pl_), (.int .i64 pi), (.int .i64 pn), (.int .i64 (sz : Int)), (.int .i64 0)]) ∧ Below W.heap.size W w') (hd : ∀ W, Env w.heap.size pe pl W → w.heap.size ≤ W.heap.size → Calls Tryd.prog 20 #[.int .i64 (k : Int), .string t] W fun e w' => e = .returned (.tuple #[.agg #[(.int .i64 a0), (.bool fl), (.int .i64 n), (.int .u64 u), (.int .u64 b), (.string tx), (.int .i64 pt), (.bool pf), (.bool pl_), (.int .i64 pi), (.int .i64 pn)], .int .i64 (sz : Int), .string ⟨#[]⟩]) ∧ Below W.heap.size W w') :
    Calls Tryd.prog 5 #[.int .u8 k, .string t] w fun e w' => e = .returned (.bool true) ∧ Below w.heap.size w w' := by
  have HE := Lib.hid he
  have HW := Lib.hid hw
  have q1 : wrap64 (k : Int) = (k : Int) := IntWalk.wrap64_in _ (by omega)
  have q2 : IntKind.i64.wrap (k : Int) = (k : Int) := IntWalk.i64_in _ (by omega)
  have q3 : ¬ 12 < (k : Int) := by omega
  have q4 : ¬ 2147483647 < (t.size : Int) := by omega
  have q5 : ¬ 400 < (t.size : Int) := by omega
  have HD := Lib.hid hd
  have HO := Lib.hid (fun W => laws_codOf.calls a0 fl n u b tx pt pf pl_ pi pn a0 fl n u b tx pt pf pl_ pi pn W (codOf_eq a0 fl n u b tx pt pf pl_ pi pn))
  have qe := eqV37 a0 fl n u b tx pt pf pl_ pi pn
  clear he hw hd hk ht
  go_enter Tryd.func5, Tryd.ntmps5
  go_wp2_with (first | (go_at_call 26; go_loud ((with_reducible refine (HW.out _).mono ?_); rintro e_ w1 ⟨rfl, hb⟩; have HB1 := Lib.hid (below_alloc hb (.cells #[(.int .i64 a0), (.bool fl), (.int .i64 n), (.int .u64 u), (.int .u64 b), (.string tx), (.int .i64 pt), (.bool pf), (.bool pl_), (.int .i64 pi), (.int .i64 pn), (.int .i64 (sz : Int)), (.int .i64 0)] 41)); have X1 := heap_alloc_new w1 (.cells #[(.int .i64 a0), (.bool fl), (.int .i64 n), (.int .u64 u), (.int .u64 b), (.string tx), (.int .i64 pt), (.bool pf), (.bool pl_), (.int .i64 pi), (.int .i64 pn), (.int .i64 (sz : Int)), (.int .i64 0)] 41); have HX1 := Lib.hid X1; clear hb X1)) | (go_at_call 20; go_loud ((with_reducible refine (HD.out _ (HE.out.below HB1.out) HB1.out.size).mono ?_); rintro e_ w2 ⟨rfl, hb⟩; have HB2 := Lib.hid (below_then HB1.out HB1.out.size hb); have X2 := blk_below HX1.out hb; have hlt := blk_lt X2; have HX2 := Lib.hid X2; have p12 : w2.cell? ⟨w1.heap.size, 12, none⟩ = some (.int .i64 0) := (blk_cell X2 12).trans rfl; clear hb X2)))
  have KD : DS w w1.heap.size w2.heap.size #[(.int .i64 a0), (.bool fl), (.int .i64 n), (.int .u64 u), (.int .u64 b), (.string tx), (.int .i64 pt), (.bool pf), (.bool pl_), (.int .i64 pi), (.int .i64 pn), (.int .i64 (sz : Int)), (.int .i64 0)] #[(.int .i64 a0), (.bool fl), (.int .i64 n), (.int .u64 u), (.int .u64 b), (.string tx), (.int .i64 pt), (.bool pf), (.bool pl_), (.int .i64 pi), (.int .i64 pn)] (w2.alloc (.cells #[(.int .i64 a0), (.bool fl), (.int .i64 n), (.int .u64 u), (.int .u64 b), (.string tx), (.int .i64 pt), (.bool pf), (.bool pl_), (.int .i64 pi), (.int .i64 pn)] 26)).drew := ⟨blk_drew (blk_alloc HX2.out _), blk_drew (heap_alloc_new w2 _), below_drew (below_alloc HB2.out _)⟩
  have K0 := DT.of KD
  have HK := Lib.hid KD
  have HKb := Lib.hid KD.2.2
  clear KD p12 hlt
  unfold DT at K0
  go_region_held3 (fun w' => w'.cell? ⟨w1.heap.size, 0, none⟩ = some (.int .i64 a0) ∧ w'.cell? ⟨w1.heap.size, 1, none⟩ = some (.bool fl) ∧ w'.cell? ⟨w1.heap.size, 2, none⟩ = some (.int .i64 n) ∧ w'.cell? ⟨w1.heap.size, 3, none⟩ = some (.int .u64 u) ∧ w'.cell? ⟨w1.heap.size, 4, none⟩ = some (.int .u64 b) ∧ w'.cell? ⟨w1.heap.size, 5, none⟩ = some (.string tx) ∧ w'.cell? ⟨w1.heap.size, 6, none⟩ = some (.int .i64 pt) ∧ w'.cell? ⟨w1.heap.size, 7, none⟩ = some (.bool pf) ∧ w'.cell? ⟨w1.heap.size, 8, none⟩ = some (.bool pl_) ∧ w'.cell? ⟨w1.heap.size, 9, none⟩ = some (.int .i64 pi) ∧ w'.cell? ⟨w1.heap.size, 10, none⟩ = some (.int .i64 pn) ∧ w'.cell? ⟨w1.heap.size, 11, none⟩ = some (.int .i64 (sz : Int)) ∧ w'.cell? ⟨w1.heap.size, 12, none⟩ = some (.int .i64 0) ∧ w'.cell? ⟨w2.heap.size, 0, none⟩ = some (.int .i64 a0) ∧ w'.cell? ⟨w2.heap.size, 1, none⟩ = some (.bool fl) ∧ w'.cell? ⟨w2.heap.size, 2, none⟩ = some (.int .i64 n) ∧ w'.cell? ⟨w2.heap.size, 3, none⟩ = some (.int .u64 u) ∧ w'.cell? ⟨w2.heap.size, 4, none⟩ = some (.int .u64 b) ∧ w'.cell? ⟨w2.heap.size, 5, none⟩ = some (.string tx) ∧ w'.cell? ⟨w2.heap.size, 6, none⟩ = some (.int .i64 pt) ∧ w'.cell? ⟨w2.heap.size, 7, none⟩ = some (.bool pf) ∧ w'.cell? ⟨w2.heap.size, 8, none⟩ = some (.bool pl_) ∧ w'.cell? ⟨w2.heap.size, 9, none⟩ = some (.int .i64 pi) ∧ w'.cell? ⟨w2.heap.size, 10, none⟩ = some (.int .i64 pn) ∧ Aside0 (DS w w1.heap.size w2.heap.size #[(.int .i64 a0), (.bool fl), (.int .i64 n), (.int .u64 u), (.int .u64 b), (.string tx), (.int .i64 pt), (.bool pf), (.bool pl_), (.int .i64 pi), (.int .i64 pn), (.int .i64 (sz : Int)), (.int .i64 0)] #[(.int .i64 a0), (.bool fl), (.int .i64 n), (.int .u64 u), (.int .u64 b), (.string tx), (.int .i64 pt), (.bool pf), (.bool pl_), (.int .i64 pi), (.int .i64 pn)] w')) (assumption) (first | (go_at_call 21; go_loud ((with_reducible refine (awake_any w.heap.size pe pl _ (HE.out.below HKb.out) HKb.out.size).mono ?_); rintro e_ w3 ⟨rfl, hb⟩; have HK3 := Lib.hid (DS.step HK.out hb); have K3 := DT.of HK3.out; unfold DT at K3; clear hb)) | (go_at_call 25; go_loud ((with_reducible refine (HO.out _).mono ?_); rintro e_ w4 ⟨rfl, hb⟩; have HK4 := Lib.hid (DS.step HK3.out hb); have K4 := DT.of HK4.out; unfold DT at K4; clear hb)))
  all_goals
    go_wp2
    go_ret
    exact ⟨rfl, HK4.out.2.2⟩
end Go.Proofs.YtgdbeiadlgkedaaDoor
