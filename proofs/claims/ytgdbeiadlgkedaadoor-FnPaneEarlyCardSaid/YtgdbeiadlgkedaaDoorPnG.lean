/- The law of early panes. -/
import Derived.Test.YtgdbeiadlgkedaaDoorPnF
set_option linter.unusedVariables false
set_option linter.unusedSimpArgs false
namespace Go.Proofs.YtgdbeiadlgkedaaDoor
open Go.RowKit Go.Proofs.YtgdbeiadlgkedaaDoorW.PrintWords Go.Proofs.YtgdbeiadlgkedaaDoorW.PrintLast Go.Proofs.YtgdbeiadlgkedaaDoorW.PrintMore
theorem ne_empty' {s : ByteArray} (h : s.data.toList ≠ []) : s.toList.isEmpty = false := by
  rw [ByteArray.toList_eq]
  cases hs : s.data.toList with
  | nil => exact absurd hs h
  | cons a l => rfl
theorem cells5 {w : World} {k T : Nat} {a b c d e : Value} (h : w.heap[k]? = some (.cells #[a, b, c, d, e] T (0, 0))) : w.cell? ⟨k, 0, none⟩ = some a ∧ w.cell? ⟨k, 1, none⟩ = some b ∧ w.cell? ⟨k, 2, none⟩ = some c ∧ w.cell? ⟨k, 3, none⟩ = some d ∧ w.cell? ⟨k, 4, none⟩ = some e :=
  ⟨(blk_cell h 0).trans rfl, (blk_cell h 1).trans rfl, (blk_cell h 2).trans rfl, (blk_cell h 3).trans rfl, (blk_cell h 4).trans rfl⟩
set_option maxHeartbeats 2000000 in
set_option maxRecDepth 100000 in
theorem early_awake (pe pl : Addr) (t : Int) (f l : Bool) (i n : Int) (w : World) (he : Env w.heap.size pe pl w) (hc : t < 0 ∨ 3 < t ∨ (t = 0 ∧ i = n)) :
    Calls Tryd.prog 7 #[.agg #[.int .i64 t, .bool f, .bool l, .int .i64 i, .int .i64 n]] w fun e w' => e = .returned (.bool true) ∧ Below w.heap.size w w' := by
  have HE := Lib.hid (he.below (below_alloc (Below.refl w.heap.size w) (.cells #[.int .i64 t, .bool f, .bool l, .int .i64 i, .int .i64 n] 24)))
  clear he
  rcases hc with h | h | ⟨rfl, rfl⟩
  all_goals
    go_enter Tryd.func7, Tryd.ntmps7
    go_wp2_with (go_at_call 21; refine (awake_any w.heap.size pe pl _ HE.out (by rw [World.size_alloc]; omega)).mono ?_; rintro e_ w1 ⟨rfl, hb1⟩; have HB1 := Lib.hid (below_then (below_alloc (Below.refl w.heap.size w) (.cells #[.int .i64 _, .bool f, .bool l, .int .i64 i, .int .i64 _] 24)) (by rw [World.size_alloc]; omega) hb1); clear hb1)
    go_ret
    exact ⟨rfl, HB1.out⟩
set_option maxHeartbeats 4000000 in
set_option maxRecDepth 100000 in
theorem early_bad (pe pl : Addr) (f l : Bool) (i n : Int) (w : World) (he : Env w.heap.size pe pl w) (hin : i ≠ n) (hn : n ≠ -1) :
    Calls Tryd.prog 7 #[.agg #[.int .i64 0, .bool f, .bool l, .int .i64 i, .int .i64 n]] w fun e w' => e = .returned (.bool true) ∧ Below w.heap.size w w' := by
  have HE := Lib.hid he
  have HX := Lib.hid (heap_alloc_new w (.cells #[.int .i64 0, .bool f, .bool l, .int .i64 i, .int .i64 n] 24))
  have HA := Lib.hid (below_alloc (Below.refl w.heap.size w) (.cells #[.int .i64 0, .bool f, .bool l, .int .i64 i, .int .i64 n] 24))
  have HV := Lib.hid (encVal_6bad false 0 0 0 ⟨#[]⟩ 0 f l i n rfl hin hn (w.alloc (.cells #[.int .i64 0, .bool f, .bool l, .int .i64 i, .int .i64 n] 24)))
  have q1 : (i == n) = false := beq_eq_false_iff_ne.2 hin
  have q2 : (n != -1) = true := bne_iff_ne.2 hn
  clear he hin hn
  go_enter Tryd.func7, Tryd.ntmps7
  go_wp2_with (first
    | (go_at_call 27; refine HV.out.mono ?_; rintro e_ w1 ⟨es, rfl, hne, hb⟩; have HB := Lib.hid (below_then HA.out HA.out.size hb); have HX1 := cells5 (blk_below HX.out hb); obtain ⟨x0, x1, x2, x3, x4⟩ := HX1; have qn := ne_empty' hne; clear hb hne)
    | (go_at_call 21; refine (awake_any w.heap.size pe pl _ (HE.out.below HB.out) HB.out.size).mono ?_; rintro e_ w2 ⟨rfl, hb⟩; have HB2 := Lib.hid (below_then HB.out HB.out.size hb); clear hb))
  go_ret
  exact ⟨rfl, HB2.out⟩
set_option maxHeartbeats 4000000 in
set_option maxRecDepth 100000 in
theorem early_ok0 (pe pl : Addr) (f l : Bool) (i : Int) (w : World) (he : Env w.heap.size pe pl w) (h2 : i ≠ -1) :
    Calls Tryd.prog 7 #[.agg #[.int .i64 0, .bool f, .bool l, .int .i64 i, .int .i64 (-1)]] w fun e w' => e = .returned (.bool true) ∧ Below w.heap.size w w' := by
  have HE := Lib.hid he
  have HX := Lib.hid (heap_alloc_new w (.cells #[.int .i64 0, .bool f, .bool l, .int .i64 i, .int .i64 (-1)] 24))
  have HA := Lib.hid (below_alloc (Below.refl w.heap.size w) (.cells #[.int .i64 0, .bool f, .bool l, .int .i64 i, .int .i64 (-1)] 24))
  have HV := Lib.hid (encVal_6 false 0 0 0 ⟨#[]⟩ 0 f l i (-1) (by decide) (fun e => .inl rfl) (w.alloc (.cells #[.int .i64 0, .bool f, .bool l, .int .i64 i, .int .i64 (-1)] 24)))
  obtain ⟨k, hk⟩ := paned_some 0 (by decide) f l i (-1)
  have HK := Lib.hid hk
  generalize (⟨(pbytes 0 f l i (-1)).toArray⟩ : ByteArray) = r at HV HK
  clear he hk
  have q1 : (i == -1) = false := beq_eq_false_iff_ne.2 h2
  clear h2
  go_enter Tryd.func7, Tryd.ntmps7
  go_wp2_with (first
    | (go_at_call 27; refine HV.out.mono ?_; rintro e_ w1 ⟨rfl, hb⟩; have HB := Lib.hid (below_then HA.out HA.out.size hb); have HX1 := Lib.hid (blk_below HX.out hb); obtain ⟨x0, x1, x2, x3, x4⟩ := cells5 HX1.out; clear hb)
    | (go_at_call 21; refine (awake_any w.heap.size pe pl _ (HE.out.below HB.out) HB.out.size).mono ?_; rintro e_ w2 ⟨rfl, hb⟩; have HB2 := Lib.hid (below_then HB.out HB.out.size hb); obtain ⟨y0, y1, y2, y3, y4⟩ := cells5 (Hid.out (Lib.hid ((hb.block _ (World.block_lt_of_cell? _ _ x0)).trans HX1.out))); clear hb)
    | (go_at_call 29; refine (codPane_any _ f l i _ _).mono ?_; rintro e_ w3 ⟨rfl, hb⟩; have HB3 := Lib.hid (below_then HB2.out HB2.out.size hb); clear hb)
    | (go_at_call 28; refine (PFnPaneEarly.spec_CodPaned.calls k _ f l i _ r _ HK.out).mono ?_; rintro e_ w4 ⟨rfl, hb⟩; have HB4 := Lib.hid (below_then HB3.out HB3.out.size hb); clear hb))
  go_ret
  exact ⟨rfl, HB4.out⟩
set_option maxHeartbeats 4000000 in
set_option maxRecDepth 100000 in
theorem early_ok (pe pl : Addr) (t : Nat) (f l : Bool) (i n : Int) (w : World) (he : Env w.heap.size pe pl w) (ht : t < 4) (h0 : t ≠ 0) :
    Calls Tryd.prog 7 #[.agg #[.int .i64 t, .bool f, .bool l, .int .i64 i, .int .i64 n]] w fun e w' => e = .returned (.bool true) ∧ Below w.heap.size w w' := by
  have HE := Lib.hid he
  have HX := Lib.hid (heap_alloc_new w (.cells #[.int .i64 (t : Int), .bool f, .bool l, .int .i64 i, .int .i64 n] 24))
  have HA := Lib.hid (below_alloc (Below.refl w.heap.size w) (.cells #[.int .i64 (t : Int), .bool f, .bool l, .int .i64 i, .int .i64 n] 24))
  have HV := Lib.hid (encVal_6 false 0 0 0 ⟨#[]⟩ t f l i n ht (fun e => absurd e h0) (w.alloc (.cells #[.int .i64 (t : Int), .bool f, .bool l, .int .i64 i, .int .i64 n] 24)))
  obtain ⟨k, hk⟩ := paned_some t ht f l i n
  have HK := Lib.hid hk
  generalize (⟨(pbytes t f l i n).toArray⟩ : ByteArray) = r at HV HK
  clear he hk
  have k0 : ((t : Int) == 0) = false := beq_eq_false_iff_ne.2 (by omega)
  clear h0
  go_enter Tryd.func7, Tryd.ntmps7
  go_wp2_with (first
    | (go_at_call 27; (with_reducible refine HV.out.mono ?_); rintro e_ w1 ⟨rfl, hb⟩; have HB := Lib.hid (below_then HA.out HA.out.size hb); have HX1 := Lib.hid (blk_below HX.out hb); obtain ⟨x0, x1, x2, x3, x4⟩ := cells5 HX1.out; clear hb)
    | (go_at_call 21; refine (awake_any w.heap.size pe pl _ (HE.out.below HB.out) HB.out.size).mono ?_; rintro e_ w2 ⟨rfl, hb⟩; have HB2 := Lib.hid (below_then HB.out HB.out.size hb); obtain ⟨y0, y1, y2, y3, y4⟩ := cells5 (Hid.out (Lib.hid ((hb.block _ (World.block_lt_of_cell? _ _ x0)).trans HX1.out))); clear hb)
    | (go_at_call 29; refine (codPane_any _ f l i _ _).mono ?_; rintro e_ w3 ⟨rfl, hb⟩; have HB3 := Lib.hid (below_then HB2.out HB2.out.size hb); clear hb)
    | (go_at_call 28; refine (PFnPaneEarly.spec_CodPaned.calls k _ f l i _ r _ HK.out).mono ?_; rintro e_ w4 ⟨rfl, hb⟩; have HB4 := Lib.hid (below_then HB3.out HB3.out.size hb); clear hb))
  go_ret
  exact ⟨rfl, HB4.out⟩
theorem early_row (pe pl : Addr) (t : Int) (f l : Bool) (i n : Int) (w : World) (he : Env w.heap.size pe pl w) :
    Calls Tryd.prog 7 #[.agg #[.int .i64 t, .bool f, .bool l, .int .i64 i, .int .i64 n]] w fun e w' => e = .returned (.bool true) ∧ Below w.heap.size w w' := by
  by_cases hc : t < 0 ∨ 3 < t ∨ (t = 0 ∧ i = n)
  · exact early_awake pe pl t f l i n w he hc
  · obtain ⟨m, rfl⟩ := Int.eq_ofNat_of_zero_le (show 0 ≤ t by omega)
    by_cases hb : m = 0 ∧ n ≠ -1
    · obtain ⟨rfl, hn⟩ := hb
      exact early_bad pe pl f l i n w he (by omega) hn
    · by_cases h0 : m = 0
      · subst h0
        have hn : n = -1 := by omega
        subst hn
        exact early_ok0 pe pl f l i w he (by omega)
      · exact early_ok pe pl m f l i n w he (by omega) h0
end Go.Proofs.YtgdbeiadlgkedaaDoor
