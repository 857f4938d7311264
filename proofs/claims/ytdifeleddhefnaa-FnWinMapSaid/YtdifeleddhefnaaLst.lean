/- Contracts: whether a window is one of the reference's, and whether lists of windows are the same. -/
import Derived.Test.YtdifeleddhefnaaEq
set_option linter.unusedVariables false
set_option linter.unusedSimpArgs false
namespace Go.Proofs.Ytdifeleddhefnaa
open Go.RowKit Go.Proofs.YtdifeleddhefnaaW.PrintWords

/-- A window of the reference's. -/
def isSp (x : Sp) : Bool := if x.g then x.s == 0 && x.e == 0 else decide (x.s < x.e) && decide (-1125899906842624 ≤ x.s) && decide (x.e ≤ 1125899906842624)
theorem isSp_nz {x : Sp} (h : isSp x = true) : nz x = x := by
  obtain ⟨g, s, e⟩ := x
  cases g
  · rfl
  · simp [isSp] at h
    obtain ⟨rfl, rfl⟩ := h
    rfl
theorem isSpan_any (x : Sp) (w : World) : Calls Try.prog 40 #[.agg #[.bool x.g, .int .i64 x.s, .int .i64 x.e]] w fun e w' => e = .returned (.bool (isSp x)) ∧ Below w.heap.size w w' := by
  obtain ⟨g, s, e⟩ := x
  cases g
  · by_cases h1 : s < e
    · by_cases h2 : -1125899906842624 ≤ s
      · have HR := Aside0.mk (show decide (e ≤ 1125899906842624) = isSp ⟨false, s, e⟩ by simp [isSp, h1, h2])
        go_enter Try.func40, Try.ntmps40
        go_wp2
        go_ret
        exact ⟨ret_bool HR.out, (by repeat (first | exact Below.refl _ _ | apply below_alloc | apply below_drew | apply pw_below_drewN | refine below_set ?_ (by simp) | (refine Below.setCell ?_ (by simp) _)))⟩
      · have HR := Aside0.mk (show false = isSp ⟨false, s, e⟩ by simp [isSp, h2])
        go_enter Try.func40, Try.ntmps40
        go_wp2
        go_ret
        exact ⟨ret_bool HR.out, (by repeat (first | exact Below.refl _ _ | apply below_alloc | apply below_drew | apply pw_below_drewN | refine below_set ?_ (by simp) | (refine Below.setCell ?_ (by simp) _)))⟩
    · have HR := Aside0.mk (show false = isSp ⟨false, s, e⟩ by simp [isSp, h1])
      go_enter Try.func40, Try.ntmps40
      go_wp2
      go_ret
      exact ⟨ret_bool HR.out, (by repeat (first | exact Below.refl _ _ | apply below_alloc | apply below_drew | apply pw_below_drewN | refine below_set ?_ (by simp) | (refine Below.setCell ?_ (by simp) _)))⟩
  · by_cases h1 : s = 0
    · subst h1
      have HR := Aside0.mk (show (e == 0) = isSp ⟨true, 0, e⟩ by simp [isSp])
      go_enter Try.func40, Try.ntmps40
      go_wp2
      go_ret
      exact ⟨ret_bool HR.out, (by repeat (first | exact Below.refl _ _ | apply below_alloc | apply below_drew | apply pw_below_drewN | refine below_set ?_ (by simp) | (refine Below.setCell ?_ (by simp) _)))⟩
    · have HR := Aside0.mk (show false = isSp ⟨true, s, e⟩ by simp [isSp, h1])
      have h1' : (s == 0) = false := by simp [h1]
      go_enter Try.func40, Try.ntmps40
      go_wp2
      go_ret
      exact ⟨ret_bool HR.out, (by repeat (first | exact Below.refl _ _ | apply below_alloc | apply below_drew | apply pw_below_drewN | refine below_set ?_ (by simp) | (refine Below.setCell ?_ (by simp) _)))⟩
theorem rd_nz {l : List Sp} {k : Nat} (h : k < l.length) : rdSp (l.map nz) k = nz (rdSp l k) := by
  unfold rdSp
  simp [List.getD_eq_getElem?_getD, List.getElem?_map, List.getElem?_eq_getElem h]
theorem takes_nz {l0 l1 : List Sp} {k : Nat} (h0 : k < l0.length) (h1 : k < l1.length) (hT : (l0.map nz).take k = (l1.map nz).take k) (he : nz (rdSp l0 k) = nz (rdSp l1 k)) : (l0.map nz).take (k + 1) = (l1.map nz).take (k + 1) :=
  takes_succ (by simpa using h0) (by simpa using h1) hT (by rw [rd_nz h0, rd_nz h1]; exact he)
theorem ne_nz {l0 l1 : List Sp} {k : Nat} (h0 : k < l0.length) (h1 : k < l1.length) (he : nz (rdSp l0 k) ≠ nz (rdSp l1 k)) : l0.map nz ≠ l1.map nz :=
  fun h => he (by have q := congrArg (fun l => rdSp l k) h; simp only [rd_nz h0, rd_nz h1] at q; exact q)
set_option maxRecDepth 100000 in
set_option maxHeartbeats 4000000 in
theorem isEqualList_any (A0 : Option Addr) (c0 : Nat) (l0 : List Sp) (A1 : Option Addr) (c1 : Nat) (l1 : List Sp) (w : World) (hr0 : Kd.C kIf w A0 l0.length l0) (hc0 : l0.length ≤ c0) (hr1 : Kd.C kIf w A1 l1.length l1) (hc1 : l1.length ≤ c1) (hl : l0.length ≤ 1000000) :
    Calls Try.prog 67 #[.slice A0 l0.length c0, .slice A1 l1.length c1] w fun e w' => e = .returned (.bool (decide (l0.map nz = l1.map nz))) ∧ Below w.heap.size w w' := by
  have HR0 := Aside0.mk hr0
  have HR1 := Aside0.mk hr1
  clear hr0 hr1 hc0 hc1
  by_cases c3 : l0.length = l1.length
  · have HL := Aside0.mk c3
    have c3b0 : ((l0.length : Int) == (l1.length : Int)) = true := by rw [c3]; simp
    have c3b1 : ((l0.length : Int) != (l1.length : Int)) = false := by rw [c3]; simp
    have c3b2 : (l0.length == l1.length) = true := by rw [c3]; simp
    clear c3
    have HB0 := Aside0.mk (Below.refl w.heap.size w)
    go_enter Try.func67, Try.ntmps67
    go_wp2
    go_loopg [14] l0.length (fun kq v14 w' => ∃ i : Nat, i ≤ l0.length ∧ Aside0 (kq = l0.length - i) ∧ v14 = .int .i64 i ∧ Aside0 ((l0.map nz).take i = (l1.map nz).take i) ∧ Aside0 (Below w.heap.size w w') ∧ Aside0 (Kd.C kIf w' A0 l0.length l0) ∧ Aside0 (Kd.C kIf w' A1 l1.length l1))
    case atStart => exact ⟨0, Nat.zero_le _, ⟨by simp⟩, rfl, ⟨by simp⟩, HB0, HR0, HR1⟩
    case round =>
      clear c3b0 c3b1 c3b2 HR0 HR1 HB0
      obtain ⟨i, hi, hq, rfl, HT, HB, HC0, HC1⟩ := hrel
      by_cases hlt : i < l0.length
      · have hlt1 : i < l1.length := by have := HL.out; omega
        obtain ⟨ad, e0, hx0⟩ := atIf HC0.out i hlt
        cases e0
        obtain ⟨bd, e1, hy0⟩ := atIf HC1.out i hlt1
        cases e1
        have q0 : (i : Int) < (l0.length : Int) := by omega
        have q1 : (i : Int) < (l1.length : Int) := by omega
        have q2 : (0 : Int) ≤ (i : Int) := by omega
        have q5 : (l0.length : Int) ≤ 1000000 := by omega
        have HS := Aside0.mk (fun h => takes_nz hlt hlt1 HT.out h)
        have HN := Aside0.mk (fun h => ne_nz hlt hlt1 h)
        generalize rdSp l0 i = x at *
        generalize rdSp l1 i = y at *
        obtain ⟨g, s, e⟩ := x
        cases g
        · rw [show ifv ⟨false, s, e⟩ = .iface 107 (.agg #[.int .i64 s, .int .i64 e]) from rfl] at hx0
          by_cases hs : sameW ⟨false, s, e⟩ y = true
          · have HT1 := Aside0.mk (HS.out (of_decide_eq_true hs))
            have HV := Aside0.mk (show (!y.g && (s == y.s && e == y.e)) = true from (sameW_false s e y).trans hs)
            clear hs
            have hna := na_false s e
            have K0 : wr.drew.cell? (bd.add i) = some (ifv y) ∧ Aside0 (Below w.heap.size w wr.drew) := ⟨hy0, ⟨below_drew HB.out⟩⟩
            have BK := Aside0.mk (fun (W' : World) (hb : Below wr.drew.heap.size wr.drew W') => (⟨(hb.cell (World.block_lt_of_cell? wr.drew _ hy0)).trans hy0, ⟨below_then (below_drew HB.out) (below_drew HB.out).size hb⟩⟩ : W'.cell? (bd.add i) = some (ifv y) ∧ Aside0 (Below w.heap.size w W')))
            have B2 := Aside0.mk (fun (W' : World) (hb : Below wr.drew.heap.size wr.drew W') => (⟨Kd.C_below HC0.out ((below_drew (Below.refl wr.heap.size wr)).trans hb), Kd.C_below HC1.out ((below_drew (Below.refl wr.heap.size wr)).trans hb)⟩ : Kd.C kIf W' (some ad) l0.length l0 ∧ Kd.C kIf W' (some bd) l1.length l1))
            go_wp2_with fail
            go_region_held3 (fun z => z.cell? (bd.add i) = some (ifv y) ∧ Aside0 (Below w.heap.size w z)) (first | exact K | exact K0 | assumption)
              (first
              | (go_at_call 119; refine (iEq_any s e y _).mono ?_; rintro e_ w3 ⟨rfl, hb⟩; have K := BK.out _ hb; have CC := Aside0.mk (B2.out _ hb); rw [HV.out]; clear hb))
            all_goals
              go_wp2
              go_roundg (l0.length - (i + 1))
              case measure => have := hq.out; omega
              case rel => exact ⟨i + 1, by omega, ⟨rfl⟩, by go_num, HT1, K.2, ⟨CC.out.1⟩, ⟨CC.out.2⟩⟩
          · have hs' : sameW ⟨false, s, e⟩ y = false := by simpa using hs
            have HNE := Aside0.mk (HN.out (of_decide_eq_false hs'))
            have HV := Aside0.mk (show (!y.g && (s == y.s && e == y.e)) = false from (sameW_false s e y).trans hs')
            clear hs hs'
            have hna := na_false s e
            have K0 : wr.drew.cell? (bd.add i) = some (ifv y) ∧ Aside0 (Below w.heap.size w wr.drew) := ⟨hy0, ⟨below_drew HB.out⟩⟩
            have BK := Aside0.mk (fun (W' : World) (hb : Below wr.drew.heap.size wr.drew W') => (⟨(hb.cell (World.block_lt_of_cell? wr.drew _ hy0)).trans hy0, ⟨below_then (below_drew HB.out) (below_drew HB.out).size hb⟩⟩ : W'.cell? (bd.add i) = some (ifv y) ∧ Aside0 (Below w.heap.size w W')))
            have B2 := Aside0.mk (fun (W' : World) (hb : Below wr.drew.heap.size wr.drew W') => (⟨Kd.C_below HC0.out ((below_drew (Below.refl wr.heap.size wr)).trans hb), Kd.C_below HC1.out ((below_drew (Below.refl wr.heap.size wr)).trans hb)⟩ : Kd.C kIf W' (some ad) l0.length l0 ∧ Kd.C kIf W' (some bd) l1.length l1))
            go_wp2_with fail
            go_region_held3 (fun z => z.cell? (bd.add i) = some (ifv y) ∧ Aside0 (Below w.heap.size w z)) (first | exact K | exact K0 | assumption)
              (first
              | (go_at_call 119; refine (iEq_any s e y _).mono ?_; rintro e_ w3 ⟨rfl, hb⟩; have K := BK.out _ hb; have CC := Aside0.mk (B2.out _ hb); rw [HV.out]; clear hb))
            all_goals
              go_wp2
              go_ret
              exact ⟨ret_bool (decide_eq_false HNE.out).symm, K.2.out⟩
        · rw [show ifv ⟨true, s, e⟩ = .iface 105 (.agg #[]) from rfl] at hx0
          by_cases hs : sameW ⟨true, s, e⟩ y = true
          · have HT1 := Aside0.mk (HS.out (of_decide_eq_true hs))
            have HV := Aside0.mk (show y.g = true from (sameW_true s e y).trans hs)
            clear hs
            have hna := na_true
            have K0 : wr.drew.cell? (bd.add i) = some (ifv y) ∧ Aside0 (Below w.heap.size w wr.drew) := ⟨hy0, ⟨below_drew HB.out⟩⟩
            have BK := Aside0.mk (fun (W' : World) (hb : Below wr.drew.heap.size wr.drew W') => (⟨(hb.cell (World.block_lt_of_cell? wr.drew _ hy0)).trans hy0, ⟨below_then (below_drew HB.out) (below_drew HB.out).size hb⟩⟩ : W'.cell? (bd.add i) = some (ifv y) ∧ Aside0 (Below w.heap.size w W')))
            have B2 := Aside0.mk (fun (W' : World) (hb : Below wr.drew.heap.size wr.drew W') => (⟨Kd.C_below HC0.out ((below_drew (Below.refl wr.heap.size wr)).trans hb), Kd.C_below HC1.out ((below_drew (Below.refl wr.heap.size wr)).trans hb)⟩ : Kd.C kIf W' (some ad) l0.length l0 ∧ Kd.C kIf W' (some bd) l1.length l1))
            go_wp2_with fail
            go_region_held3 (fun z => z.cell? (bd.add i) = some (ifv y) ∧ Aside0 (Below w.heap.size w z)) (first | exact K | exact K0 | assumption)
              (first
              | (go_at_call 116; refine (gEq_any y _).mono ?_; rintro e_ w3 ⟨rfl, hb⟩; have K := BK.out _ hb; have CC := Aside0.mk (B2.out _ hb); rw [HV.out]; clear hb))
            all_goals
              go_wp2
              go_roundg (l0.length - (i + 1))
              case measure => have := hq.out; omega
              case rel => exact ⟨i + 1, by omega, ⟨rfl⟩, by go_num, HT1, K.2, ⟨CC.out.1⟩, ⟨CC.out.2⟩⟩
          · have hs' : sameW ⟨true, s, e⟩ y = false := by simpa using hs
            have HNE := Aside0.mk (HN.out (of_decide_eq_false hs'))
            have HV := Aside0.mk (show y.g = false from (sameW_true s e y).trans hs')
            clear hs hs'
            have hna := na_true
            have K0 : wr.drew.cell? (bd.add i) = some (ifv y) ∧ Aside0 (Below w.heap.size w wr.drew) := ⟨hy0, ⟨below_drew HB.out⟩⟩
            have BK := Aside0.mk (fun (W' : World) (hb : Below wr.drew.heap.size wr.drew W') => (⟨(hb.cell (World.block_lt_of_cell? wr.drew _ hy0)).trans hy0, ⟨below_then (below_drew HB.out) (below_drew HB.out).size hb⟩⟩ : W'.cell? (bd.add i) = some (ifv y) ∧ Aside0 (Below w.heap.size w W')))
            have B2 := Aside0.mk (fun (W' : World) (hb : Below wr.drew.heap.size wr.drew W') => (⟨Kd.C_below HC0.out ((below_drew (Below.refl wr.heap.size wr)).trans hb), Kd.C_below HC1.out ((below_drew (Below.refl wr.heap.size wr)).trans hb)⟩ : Kd.C kIf W' (some ad) l0.length l0 ∧ Kd.C kIf W' (some bd) l1.length l1))
            go_wp2_with fail
            go_region_held3 (fun z => z.cell? (bd.add i) = some (ifv y) ∧ Aside0 (Below w.heap.size w z)) (first | exact K | exact K0 | assumption)
              (first
              | (go_at_call 116; refine (gEq_any y _).mono ?_; rintro e_ w3 ⟨rfl, hb⟩; have K := BK.out _ hb; have CC := Aside0.mk (B2.out _ hb); rw [HV.out]; clear hb))
            all_goals
              go_wp2
              go_ret
              exact ⟨ret_bool (decide_eq_false HNE.out).symm, K.2.out⟩
      · have hkl : Aside0 (i = l0.length) := ⟨by omega⟩
        go_wp2
        go_ret
        exact ⟨ret_bool (decide_eq_true (by have h := HT.out; rw [hkl.out, List.take_of_length_le (by simp), List.take_of_length_le (by simp [HL.out])] at h; exact h)).symm, HB.out⟩
  · have HL := Aside0.mk c3
    have c3b0 : ((l0.length : Int) == (l1.length : Int)) = false := beq_eq_false_iff_ne.mpr (by omega)
    have c3b1 : ((l0.length : Int) != (l1.length : Int)) = true := bne_iff_ne.mpr (by omega)
    have c3b2 : (l0.length == l1.length) = false := by simp [c3]
    clear c3
    go_enter Try.func67, Try.ntmps67
    go_wp2
    go_ret
    exact ⟨ret_bool (decide_eq_false (fun h => HL.out (by have := congrArg List.length h; simpa using this))).symm, Below.refl _ _⟩
end Go.Proofs.Ytdifeleddhefnaa
