/- Contracts and plain laws, several texts in one. -/
import Derived.Test.YtgdbeiadlgkedaaDoorMThereBack0
import Derived.Test.YtgdbeiadlgkedaaDoorMThereBack8
import Derived.Outline
import Derived.LaidEql
set_option linter.unusedVariables false
set_option linter.unusedSimpArgs false
namespace Go.Proofs.YtgdbeiadlgkedaaDoor
open Go.RowKit
def A64 (w : World) (d : Nat) : Prop := ∃ cur, w.heap[d]? = some (.cells cur 188 (0, 0)) ∧ cur.size = 64
theorem A64.kept {w w' : World} {d : Nat} {b : Nat} (h : A64 w d) (hk : Lib.OthersKept 5 (some b) w w') (hd : d ≠ b) : A64 w' d := by
  obtain ⟨cur, h1, h2⟩ := h
  exact ⟨cur, hk d _ h1 (by simpa using hd) (fun c fz e => by injection e with _ e _; cases e), h2⟩
theorem Bf.row {B b d : Nat} {l : List UInt8} {w : World} {cur : Array Value} (h : Bf B b l w) (hd : w.heap[d]? = some (.cells cur 188 (0, 0))) (cs : Array Value) : Bf B b l (w.setRow d cs) := by
  obtain ⟨hB, v, lr, h1, hown, hne⟩ := h
  have hdb : d ≠ b := by
    rintro rfl
    rw [h1] at hd
    injection hd with hd
    injection hd with _ hd _
    cases hd
  refine ⟨hB, v, lr, (setRow_other _ _ _ _ (fun e => hdb e.symm)).trans h1, ⟨hown.1, ?_⟩, hne⟩
  rcases hown.2 with h2 | ⟨g, cap, c, e1, e2, e3, e4⟩
  · exact .inl h2
  · refine .inr ⟨g, cap, c, e1, e2, (setRow_other _ _ _ _ ?_).trans e3, e4⟩
    rintro rfl
    rw [e3] at hd
    injection hd with hd
    injection hd with _ hd _
    cases hd
theorem copy_in {w : World} {d : Nat} {cur : Array Value} {s : List UInt8} (hd : w.heap[d]? = some (.cells cur 188 (0, 0))) (hs : cur.size = 64) (hl : s.length ≤ 64) :
    At (w.setRow d (cur.toList.take 0 ++ Lib.byteCells s ++ cur.toList.drop (0 + s.length)).toArray) ⟨d, 0, none⟩ s ∧ A64 (w.setRow d (cur.toList.take 0 ++ Lib.byteCells s ++ cur.toList.drop (0 + s.length)).toArray) d := by
  have h := setRow_heap w d cur (cur.toList.take 0 ++ Lib.byteCells s ++ cur.toList.drop (0 + s.length)).toArray 188 (0, 0) hd
  refine ⟨At.mk fun j x hj => ?_, _, h, ?_⟩
  · rw [blk_cell h j]
    have hlt := (List.getElem?_eq_some_iff.1 hj).1
    rw [List.getElem?_toArray, List.take_zero, List.nil_append, List.getElem?_append_left (by rw [Lib.byteCells_length]; exact hlt), Lib.byteCells, List.getElem?_map, hj]
    rfl
  · simp [Lib.byteCells_length]
    omega
theorem Below.row {B d : Nat} {w w' : World} (h : Below B w w') (hd : B ≤ d) (cs : Array Value) : Below B w (w'.setRow d cs) :=
  ⟨h.os, h.tape, h.output, by simp [World.setRow]; exact h.size, fun k hk => (setRow_other _ _ _ _ (by omega)).trans (h.block k hk)⟩
theorem info5s : (Tryd.prog.info? 5).map (·.size) = some 1 := by kernel_rfl
theorem sub_str {s : ByteArray} {i n : Nat} (h : i + n ≤ s.size) : (s.extract i (i + n)).size = n ∧ (s.extract i (i + n)).data.toList = (s.data.toList.drop i).take n := by
  have e : (s.extract i (i + n)).data.toList = (s.data.toList.drop i).take n := by rw [Lib.extract_data, Nat.add_sub_cancel_left]
  refine ⟨?_, e⟩
  have e2 : (s.extract i (i + n)).size = (s.extract i (i + n)).data.toList.length := by rw [Array.length_toList]; rfl
  rw [e2, e, List.length_take, List.length_drop, Array.length_toList]
  have : s.data.size = s.size := rfl
  omega
set_option maxHeartbeats 8000000 in
set_option maxRecDepth 100000 in
theorem encStr_any (B b : Nat) (s : ByteArray) (l0 : List UInt8) (w : World) (h : Bf B b l0 w) (hs : s.size ≤ 1000000) (hl0 : l0.length ≤ 1000000) :
    Calls Tryd.prog 106 #[.string s, bfI b] w fun e w' => e = .returned .nilIface ∧ Bf B b (l0 ++ s.data.toList) w' ∧ Below B w w' := by
  have hB := h.size
  have hbl := h.lt
  have H := Lib.hid h
  have q1 : (s.size : Int) ≤ 1000000 := by omega
  have HL := Lib.hid (And.intro hs (And.intro hl0 hB))
  have HBL := Lib.hid hbl
  clear h hs hl0 hB hbl
  go_enter Tryd.func106, Tryd.ntmps106
  go_wp2
  go_loopg [7] s.size (fun kq v7 wr => ∃ i : Nat, kq + i = s.size ∧ v7 = .int .i64 (i : Int) ∧ Hid (Bf B b (l0 ++ s.data.toList.take i) wr) ∧ Hid (Below B w wr) ∧ Hid (A64 wr w.heap.size) ∧ Hid (w.heap.size < wr.heap.size))
  case atStart => exact ⟨0, rfl, rfl, Lib.hid (by rw [List.take_zero, List.append_nil]; exact H.out.alloc _), Lib.hid ((Below.refl B w).alloc HL.out.2.2 _), Lib.hid ⟨_, heap_alloc_new w _, rfl⟩, Lib.hid (by rw [World.size_alloc]; omega)⟩
  case round =>
    obtain ⟨i, hki, rfl, HF, HB, HA, HSZ⟩ := hrel
    have his : i ≤ s.size := by omega
    have hdb : w.heap.size ≠ b := by have := HBL.out; omega
    by_cases hlt : 64 < s.size - i
    · have hc : 64 < (s.size : Int) - (i : Int) := by omega
      have hi2 : (i : Int) ≤ 1000000 := by omega
      obtain ⟨sz, hsub⟩ := sub_str (s := s) (i := i) (n := 64) (by omega)
      obtain ⟨cur, hcur, hcs⟩ := HA.out
      obtain ⟨j, hj⟩ : ∃ j, j = i + 64 := ⟨_, rfl⟩
      have e64 : (i : Int) + 64 = (j : Int) := by omega
      have HX := Lib.hid (show gk - 64 < gk ∧ gk - 64 + j = s.size ∧ j = i + 64 by omega)
      have q2 : j ≤ s.size := by omega
      have q3 : (j : Int) ≤ (s.size : Int) := by omega
      have q4 : (i : Int) ≤ (j : Int) := by omega
      have q5 : i ≤ j := by omega
      rw [← hj] at sz hsub
      clear hj
      have HC := Lib.hid hcur
      have HCS := Lib.hid hcs
      have HS := Lib.hid (And.intro sz hsub)
      clear hki hlt hcur hcs sz hsub
      go_wp2
      refine still_tail 5 (by kernel_rfl) (by kernel_rfl) ?_
      simp only [List.take_succ_cons, List.take_zero, List.drop_succ_cons, List.drop_zero]
      repeat still_step
      try refine wpStill_nil ?_
      obtain ⟨sub, hsb⟩ : ∃ sub, s.extract i j = sub := ⟨_, rfl⟩
      obtain ⟨l2, hl2⟩ : ∃ l2, (s.data.toList.drop i).take 64 = l2 := ⟨_, rfl⟩
      rw [hsb, hl2] at HS
      have hll : l2.length = 64 := by rw [← HS.out.2, Array.length_toList]; exact HS.out.1
      have hcp := Lib.run_copy_row_string (P := Tryd.prog) (wr.drewN 1) 29 9 3 5 w.heap.size 0 64 64 sub cur 188 Tryd.underlying29 info5s HC.out (by rw [HS.out.1]; exact Nat.le_refl _) (by rw [HCS.out, HS.out.1]; exact Nat.le_refl _)
      have hin := copy_in (w := wr.drewN 1) (s := l2) HC.out HCS.out (by rw [hll]; exact Nat.le_refl _)
      rw [HS.out.1, HS.out.2] at hcp
      rw [hll] at hin
      have hbf := Bf.row (w := wr.drewN 1) HF.out HC.out (cur.toList.take 0 ++ Lib.byteCells l2 ++ cur.toList.drop (0 + 64)).toArray
      have hbl := Below.row (B := B) (w := w) (w' := wr.drewN 1) (d := w.heap.size) (below_drewN HB.out 1) HL.out.2.2 (cur.toList.take 0 ++ Lib.byteCells l2 ++ cur.toList.drop (0 + 64)).toArray
      have hsz2 : w.heap.size < ((wr.drewN 1).setRow w.heap.size (cur.toList.take 0 ++ Lib.byteCells l2 ++ cur.toList.drop (0 + 64)).toArray).heap.size := by simp [World.setRow]; exact HSZ.out
      obtain ⟨W2, hW2⟩ : ∃ W2, (wr.drewN 1).setRow w.heap.size (cur.toList.take 0 ++ Lib.byteCells l2 ++ cur.toList.drop (0 + 64)).toArray = W2 := ⟨_, rfl⟩
      rw [hW2] at hcp hin hbf hbl hsz2
      have HI2 := Lib.hid (And.intro hin (And.intro hbf (And.intro hbl (And.intro hsz2 hll))))
      have HTK := Lib.hid (show l0 ++ s.data.toList.take i ++ l2 = l0 ++ s.data.toList.take j by rw [HX.out.2.2, List.take_add, hl2, List.append_assoc])
      have hlim : (l0 ++ s.data.toList.take i).length + 64 ≤ 140737488355328 := by have := HL.out; rw [List.length_append, List.length_take]; omega
      have HLIM := Lib.hid hlim
      clear hin hbf hbl hsz2 hW2 hl2 hll hlim
      simp only [hsb]
      go_wp2_with (go_at_call 102; go_loud (refine (wrU_any B b _ l2 ⟨w.heap.size, 0, none⟩ 64 64 W2 HI2.out.2.1 HI2.out.2.2.2.2 hdb HI2.out.1.1 HLIM.out).mono ?_; rintro e_ w3 ⟨rfl, h1, h2, h3⟩; have H3 := Lib.hid (And.intro h1 (And.intro h2 h3)); clear h1 h2 h3))
      go_roundg (gk - 64)
      case measure => exact HX.out.1
      case rel => exact ⟨j, HX.out.2.1, rfl, Lib.hid (HTK.out ▸ H3.out.1), Lib.hid (HI2.out.2.2.1.trans H3.out.2.1), Lib.hid (HI2.out.1.2.kept H3.out.2.2 hdb), Lib.hid (Nat.lt_of_lt_of_le HI2.out.2.2.2.1 H3.out.2.1.size)⟩
    · obtain ⟨m, hm⟩ : ∃ m, m = s.size - i := ⟨_, rfl⟩
      have em : (s.size : Int) - (i : Int) = (m : Int) := by omega
      have m64 : (m : Int) ≤ 64 := by omega
      have m64n : m ≤ 64 := by omega
      have hsub := sub_str (s := s) (i := i) (n := m) (by omega)
      rw [show i + m = s.size by omega] at hsub
      obtain ⟨cur, hcur, hcs⟩ := HA.out
      have q3 : (i : Int) ≤ (s.size : Int) := by omega
      have HC := Lib.hid hcur
      have HCS := Lib.hid hcs
      have HTK := Lib.hid (show l0 ++ s.data.toList.take i ++ (s.data.toList.drop i).take m = l0 ++ s.data.toList by
        rw [List.append_assoc, ← List.take_add, List.take_of_length_le (by rw [Array.length_toList]; show s.size ≤ _; omega)])
      obtain ⟨sub, hsb⟩ : ∃ sub, s.extract i s.size = sub := ⟨_, rfl⟩
      obtain ⟨l2, hl2⟩ : ∃ l2, (s.data.toList.drop i).take m = l2 := ⟨_, rfl⟩
      rw [hsb, hl2] at hsub
      rw [hl2] at HTK
      have HS := Lib.hid hsub
      clear hki hlt hcur hcs hsub hm hl2
      go_wp2
      refine still_tail 5 (by kernel_rfl) (by kernel_rfl) ?_
      simp only [List.take_succ_cons, List.take_zero, List.drop_succ_cons, List.drop_zero]
      repeat still_step
      try refine wpStill_nil ?_
      have hll : l2.length = m := by rw [← HS.out.2, Array.length_toList]; exact HS.out.1
      have hcp := Lib.run_copy_row_string (P := Tryd.prog) (wr.drewN 1) 29 9 3 5 w.heap.size 0 m 64 sub cur 188 Tryd.underlying29 info5s HC.out (by rw [HS.out.1]; exact Nat.le_refl _) (by rw [HCS.out, HS.out.1]; omega)
      have hin := copy_in (w := wr.drewN 1) (s := l2) HC.out HCS.out (by rw [hll]; exact m64n)
      rw [HS.out.1, HS.out.2] at hcp
      rw [hll] at hin
      have hbf := Bf.row (w := wr.drewN 1) HF.out HC.out (cur.toList.take 0 ++ Lib.byteCells l2 ++ cur.toList.drop (0 + m)).toArray
      have hbl := Below.row (B := B) (w := w) (w' := wr.drewN 1) (d := w.heap.size) (below_drewN HB.out 1) HL.out.2.2 (cur.toList.take 0 ++ Lib.byteCells l2 ++ cur.toList.drop (0 + m)).toArray
      obtain ⟨W2, hW2⟩ : ∃ W2, (wr.drewN 1).setRow w.heap.size (cur.toList.take 0 ++ Lib.byteCells l2 ++ cur.toList.drop (0 + m)).toArray = W2 := ⟨_, rfl⟩
      rw [hW2] at hcp hin hbf hbl
      have HI2 := Lib.hid (And.intro hin (And.intro hbf (And.intro hbl hll)))
      have hlim : (l0 ++ s.data.toList.take i).length + m ≤ 140737488355328 := by have := HL.out; rw [List.length_append, List.length_take]; omega
      have HLIM := Lib.hid hlim
      clear hin hbf hbl hW2 hll hlim
      try simp only [hsb]
      go_wp2_with (go_at_call 102; go_loud (refine (wrU_any B b _ l2 ⟨w.heap.size, 0, none⟩ m 64 W2 HI2.out.2.1 HI2.out.2.2.2 hdb HI2.out.1.1 HLIM.out).mono ?_; rintro e_ w3 ⟨rfl, h1, h2, h3⟩; have H3 := Lib.hid (And.intro h1 (And.intro h2 h3)); clear h1 h2 h3))
      go_ret
      exact ⟨rfl, HTK.out ▸ H3.out.1, HI2.out.2.2.1.trans H3.out.2.1⟩
end Go.Proofs.YtgdbeiadlgkedaaDoor
namespace Go.Proofs.YtgdbeiadlgkedaaDoor
open Go.RowKit
set_option linter.unusedVariables false
set_option linter.unusedSimpArgs false
abbrev errV (p : Addr) : Value := .iface 182 (.pointer (some p))
theorem laidAt_get {cur : Array Value} {bs : List UInt8} {j : Nat} {x : UInt8} (h : bs[j]? = some x) : (laidAt cur 0 bs)[j]? = some (.int .u8 x.toNat) := by
  have hl := (List.getElem?_eq_some_iff.1 h).1
  simp only [laidAt, List.take_zero, List.nil_append, List.getElem?_toArray]
  rw [List.getElem?_append_left (by rw [cellsOf_len]; exact hl), cellsOf, List.getElem?_map, h]; rfl
theorem Err.kept {v : Value} {w w' : World} (h : Err v w) (hk : ∀ k, k < w.heap.size → w'.heap[k]? = w.heap[k]?) : Err v w' := by
  obtain ⟨a, s, e1, e2, e3⟩ := h
  exact ⟨a, s, e1, (World.cell?_of_block (a := a) (hk _ (World.block_lt_of_cell? w a e2))).trans e2, e3⟩
theorem fix_ok (r g : Nat) (l : List UInt8) (i d n : Nat) (cur : Array Value) (T : TypeId) (w : World) (h : Rd r g l i w) (hn : 0 < n) (hi : i + n ≤ l.length) (hd : w.heap[d]? = some (.cells cur T (0, 0))) (hdr : d ≠ r) (hdg : d ≠ g) (hs : cur.size = n) :
    Calls Tryd.prog 94 #[rdI r, .slice (some ⟨d, 0, none⟩) n n] w fun e w' => e = .returned .nilIface ∧ Rd r g l (i + n) w' ∧ At w' ⟨d, 0, none⟩ ((l.drop i).take n) ∧ Two r d w w' :=
  (readNB_some r g l i d n n cur T w h (by omega) hd hdr hdg hi (by omega) hn (Nat.le_refl _)).mono fun e w' ⟨a1, a2, a3, a4⟩ => ⟨a1, a2, At.mk fun j x hj => (blk_cell a3 j).trans (laidAt_get hj), a4⟩
theorem eight (l : List UInt8) (h : 8 ≤ l.length) : ∃ b0 b1 b2 b3 b4 b5 b6 b7, l.take 8 = [b0, b1, b2, b3, b4, b5, b6, b7] := by
  match l, h with
  | b0 :: b1 :: b2 :: b3 :: b4 :: b5 :: b6 :: b7 :: r, _ => exact ⟨b0, b1, b2, b3, b4, b5, b6, b7, rfl⟩
theorem four (l : List UInt8) (h : 4 ≤ l.length) : ∃ b0 b1 b2 b3, l.take 4 = [b0, b1, b2, b3] := by
  match l, h with
  | b0 :: b1 :: b2 :: b3 :: r, _ => exact ⟨b0, b1, b2, b3, rfl⟩
theorem At.get {w : World} {d : Nat} {l : List UInt8} (h : At w ⟨d, 0, none⟩ l) {j : Nat} {x : UInt8} (hj : l[j]? = some x) : w.cell? ⟨d, 0 + j, none⟩ = some (.int .u8 x.toNat) := by
  have := h j x hj
  rwa [Lib.addr_add] at this
theorem get64_any (d : Nat) (l : List UInt8) (w : World) (hl : 8 ≤ l.length) (h : At w ⟨d, 0, none⟩ (l.take 8)) :
    Calls Tryd.prog 96 #[.agg #[], .slice (some ⟨d, 0, none⟩) 8 8] w fun e w' => e = .returned (.int .u64 (Lib.beNat (l.take 8) : Nat)) ∧ Below w.heap.size w w' := by
  obtain ⟨b0, b1, b2, b3, b4, b5, b6, b7, e⟩ := eight l hl
  rw [e] at h ⊢
  exact Tryd.binary_BE_Uint64 d 0 8 8 b0 b1 b2 b3 b4 b5 b6 b7 w (by decide) (h.get (j := 0) rfl) (h.get (j := 1) rfl) (h.get (j := 2) rfl) (h.get (j := 3) rfl) (h.get (j := 4) rfl) (h.get (j := 5) rfl) (h.get (j := 6) rfl) (h.get (j := 7) rfl)
theorem get32_any (d : Nat) (l : List UInt8) (w : World) (hl : 4 ≤ l.length) (h : At w ⟨d, 0, none⟩ (l.take 4)) :
    Calls Tryd.prog 97 #[.agg #[], .slice (some ⟨d, 0, none⟩) 4 4] w fun e w' => e = .returned (.int .u32 (Lib.beNat (l.take 4) : Nat)) ∧ Below w.heap.size w w' := by
  obtain ⟨b0, b1, b2, b3, e⟩ := four l hl
  rw [e] at h ⊢
  exact Tryd.binary_BE_Uint32 d 0 4 4 b0 b1 b2 b3 w (by decide) (h.get (j := 0) rfl) (h.get (j := 1) rfl) (h.get (j := 2) rfl) (h.get (j := 3) rfl)
theorem Rd.ge {r g : Nat} {l : List UInt8} {i : Nat} {w : World} (h : Rd r g l i w) (o : Obj) : w.heap.size ≠ r ∧ w.heap.size ≠ g := ⟨by have := h.lt; omega, by have := h.ltg; omega⟩
set_option maxHeartbeats 2000000 in
set_option maxRecDepth 100000 in
theorem decU64_ok (r g : Nat) (l : List UInt8) (i : Nat) (w : World) (h : Rd r g l i w) (hi : i + 8 ≤ l.length) :
    Calls Tryd.prog 59 #[rdI r] w fun e w' => e = .returned (.tuple #[.int .u64 (Lib.beNat ((l.drop i).take 8) : Nat), .nilIface]) ∧ w.grownBy w' (some r) ∧ Rd r g l (i + 8) w' := by
  have hne := h.ge (.cells #[] 0)
  have hC := fix_ok r g l i w.heap.size 8 _ _ _ (h.alloc (.cells #[.int .u8 0, .int .u8 0, .int .u8 0, .int .u8 0, .int .u8 0, .int .u8 0, .int .u8 0, .int .u8 0] 164)) (by decide) hi (heap_alloc_new w _) hne.1 hne.2 rfl
  have HC := Lib.hid hC
  have HI := Lib.hid (show 8 ≤ (l.drop i).length by rw [List.length_drop]; omega)
  clear hC h hne hi
  go_enter Tryd.func59, Tryd.ntmps59
  go_wp2_with (go_at_call 94; go_loud (refine HC.out.mono ?_; rintro e_ w1 ⟨rfl, h1, h2, h3⟩; have H1 := Lib.hid h1; have H2 := Lib.hid h2; have HG := Lib.hid (Two.grown (grown_alloc (grown_refl (r := r) w) _) h3 (Nat.le_refl _)); clear h1 h2 h3))
  go_region_with (go_at_call 96; refine (get64_any w.heap.size (l.drop i) _ HI.out ?ha).mono ?_; (case ha => exact H2.out); rintro e_ w2 ⟨rfl, hb⟩; have HB := Lib.hid hb; clear hb)
  all_goals
    go_wp2
    go_ret2
    exact ⟨rfl, Lib.grownBy_below (grown_drewN HG.out 1) HB.out, (H1.out.drewN 1).below HB.out⟩
set_option maxHeartbeats 2000000 in
set_option maxRecDepth 100000 in
theorem decU32_ok (r g : Nat) (l : List UInt8) (i : Nat) (w : World) (h : Rd r g l i w) (hi : i + 4 ≤ l.length) :
    Calls Tryd.prog 58 #[rdI r] w fun e w' => e = .returned (.tuple #[.int .u32 (Lib.beNat ((l.drop i).take 4) : Nat), .nilIface]) ∧ w.grownBy w' (some r) ∧ Rd r g l (i + 4) w' := by
  have hne := h.ge (.cells #[] 0)
  have hC := fix_ok r g l i w.heap.size 4 _ _ _ (h.alloc (.cells #[.int .u8 0, .int .u8 0, .int .u8 0, .int .u8 0] 168)) (by decide) hi (heap_alloc_new w _) hne.1 hne.2 rfl
  have HC := Lib.hid hC
  have HI := Lib.hid (show 4 ≤ (l.drop i).length by rw [List.length_drop]; omega)
  clear hC h hne hi
  go_enter Tryd.func58, Tryd.ntmps58
  go_wp2_with (go_at_call 94; go_loud (refine HC.out.mono ?_; rintro e_ w1 ⟨rfl, h1, h2, h3⟩; have H1 := Lib.hid h1; have H2 := Lib.hid h2; have HG := Lib.hid (Two.grown (grown_alloc (grown_refl (r := r) w) _) h3 (Nat.le_refl _)); clear h1 h2 h3))
  go_region_with (go_at_call 97; refine (get32_any w.heap.size (l.drop i) _ HI.out ?ha).mono ?_; (case ha => exact H2.out); rintro e_ w2 ⟨rfl, hb⟩; have HB := Lib.hid hb; clear hb)
  all_goals
    go_wp2
    go_ret2
    exact ⟨rfl, Lib.grownBy_below (grown_drewN HG.out 1) HB.out, (H1.out.drewN 1).below HB.out⟩
set_option maxHeartbeats 2000000 in
set_option maxRecDepth 100000 in
theorem decF64_ok (r g : Nat) (l : List UInt8) (i : Nat) (w : World) (h : Rd r g l i w) (hi : i + 8 ≤ l.length) :
    Calls Tryd.prog 49 #[rdI r] w fun e w' => e = .returned (.tuple #[.float .f64 (Lib.beNat ((l.drop i).take 8)), .nilIface]) ∧ w.grownBy w' (some r) ∧ Rd r g l (i + 8) w' := by
  have hne := h.ge (.cells #[] 0)
  have hC := fix_ok r g l i w.heap.size 8 _ _ _ (h.alloc (.cells #[.int .u8 0, .int .u8 0, .int .u8 0, .int .u8 0, .int .u8 0, .int .u8 0, .int .u8 0, .int .u8 0] 164)) (by decide) hi (heap_alloc_new w _) hne.1 hne.2 rfl
  have HC := Lib.hid hC
  have HI := Lib.hid (show 8 ≤ (l.drop i).length by rw [List.length_drop]; omega)
  have fb : ∀ W, (callFunc 72 #[.int .u64 (Lib.beNat ((l.drop i).take 8) : Nat)]).run Tryd.prog W = .ok (.value (.float .f64 (Lib.beNat ((l.drop i).take 8)))) W := fun _ => by kernel_rfl
  clear hC h hne hi
  go_enter Tryd.func49, Tryd.ntmps49
  go_wp2_with (go_at_call 94; go_loud (refine HC.out.mono ?_; rintro e_ w1 ⟨rfl, h1, h2, h3⟩; have H1 := Lib.hid h1; have H2 := Lib.hid h2; have HG := Lib.hid (Two.grown (grown_alloc (grown_refl (r := r) w) _) h3 (Nat.le_refl _)); clear h1 h2 h3))
  go_region_with (go_at_call 96; refine (get64_any w.heap.size (l.drop i) _ HI.out ?ha).mono ?_; (case ha => exact H2.out); rintro e_ w2 ⟨rfl, hb⟩; have HB := Lib.hid hb; clear hb)
  all_goals
    go_wp2
    go_ret2
    exact ⟨rfl, Lib.grownBy_below (grown_drewN HG.out 1) HB.out, (H1.out.drewN 1).below HB.out⟩
set_option maxHeartbeats 2000000 in
set_option maxRecDepth 100000 in
theorem decF32_ok (r g : Nat) (l : List UInt8) (i : Nat) (w : World) (h : Rd r g l i w) (hi : i + 4 ≤ l.length) :
    Calls Tryd.prog 55 #[rdI r] w fun e w' => e = .returned (.tuple #[.float .f32 (Lib.beNat ((l.drop i).take 4)), .nilIface]) ∧ w.grownBy w' (some r) ∧ Rd r g l (i + 4) w' := by
  have hne := h.ge (.cells #[] 0)
  have hC := fix_ok r g l i w.heap.size 4 _ _ _ (h.alloc (.cells #[.int .u8 0, .int .u8 0, .int .u8 0, .int .u8 0] 168)) (by decide) hi (heap_alloc_new w _) hne.1 hne.2 rfl
  have HC := Lib.hid hC
  have HI := Lib.hid (show 4 ≤ (l.drop i).length by rw [List.length_drop]; omega)
  have fb : ∀ W, (callFunc 78 #[.int .u32 (Lib.beNat ((l.drop i).take 4) : Nat)]).run Tryd.prog W = .ok (.value (.float .f32 (Lib.beNat ((l.drop i).take 4)))) W := fun _ => by kernel_rfl
  clear hC h hne hi
  go_enter Tryd.func55, Tryd.ntmps55
  go_wp2_with (go_at_call 94; go_loud (refine HC.out.mono ?_; rintro e_ w1 ⟨rfl, h1, h2, h3⟩; have H1 := Lib.hid h1; have H2 := Lib.hid h2; have HG := Lib.hid (Two.grown (grown_alloc (grown_refl (r := r) w) _) h3 (Nat.le_refl _)); clear h1 h2 h3))
  go_region_with (go_at_call 97; refine (get32_any w.heap.size (l.drop i) _ HI.out ?ha).mono ?_; (case ha => exact H2.out); rintro e_ w2 ⟨rfl, hb⟩; have HB := Lib.hid hb; clear hb)
  all_goals
    go_wp2
    go_ret2
    exact ⟨rfl, Lib.grownBy_below (grown_drewN HG.out 1) HB.out, (H1.out.drewN 1).below HB.out⟩
theorem decI32_ok (r g : Nat) (l : List UInt8) (i : Nat) (w : World) (h : Rd r g l i w) (hi : i + 4 ≤ l.length) :
    Calls Tryd.prog 52 #[rdI r] w fun e w' => e = .returned (.tuple #[.int .i32 (wrap32 (Lib.beNat ((l.drop i).take 4) : Nat)), .nilIface]) ∧ w.grownBy w' (some r) ∧ Rd r g l (i + 4) w' := by
  have HC := Lib.hid (decU32_ok r g l i w h hi)
  clear h hi
  go_enter Tryd.func52, Tryd.ntmps52
  go_wp2_with (go_at_call 58; go_loud (refine HC.out.mono ?_; rintro e_ w1 ⟨rfl, h1⟩; have H1 := Lib.hid h1; clear h1))
  go_ret2
  exact ⟨rfl, H1.out⟩
theorem decTime_ok (r g : Nat) (l : List UInt8) (i : Nat) (w : World) (h : Rd r g l i w) (hi : i + 8 ≤ l.length) :
    Calls Tryd.prog 51 #[rdI r] w fun e w' => e = .returned (.tuple #[.int .i64 (wrap64 (wrap64 (Lib.beNat ((l.drop i).take 8) : Nat) + -9223372036854775808)), .nilIface]) ∧ w.grownBy w' (some r) ∧ Rd r g l (i + 8) w' := by
  have HC := Lib.hid (decU64_ok r g l i w h hi)
  clear h hi
  go_enter Tryd.func51, Tryd.ntmps51
  go_wp2_with (go_at_call 59; go_loud (refine HC.out.mono ?_; rintro e_ w1 ⟨rfl, h1⟩; have H1 := Lib.hid h1; clear h1))
  go_ret2
  exact ⟨rfl, H1.out⟩
theorem decVarI_ok (B : Nat) (pe pl : Addr) (r g : Nat) (l : List UInt8) (i v k : Nat) (w : World) (h : Rd r g l i w) (he : Env B pe pl w) (hBr : B ≤ r) (hR : vrd 0 0 (l.drop i) = some (v, k)) :
    Calls Tryd.prog 60 #[rdI r] w fun e w' => e = .returned (.tuple #[.int .i64 (wrap64 (v : Nat)), .nilIface]) ∧ w.grownBy w' (some r) ∧ Rd r g l (i + k) w' := by
  have HC := Lib.hid (decVar_any B pe pl r g l i w h he hBr _ hR)
  clear h hR he hBr
  go_enter Tryd.func60, Tryd.ntmps60
  go_wp2_with (go_at_call 61; go_loud (refine HC.out.mono ?_; rintro e_ w1 ⟨hg, ⟨v', k', hvk, rfl, h1⟩ | ⟨hn, _⟩⟩; rotate_left; exact absurd hn (by simp); obtain ⟨rfl, rfl⟩ : v = v' ∧ k = k' := (by simpa using hvk); have H1 := Lib.hid (And.intro hg h1); clear h1 hg hvk))
  go_ret2
  exact ⟨rfl, H1.out⟩
end Go.Proofs.YtgdbeiadlgkedaaDoor
namespace Go.Proofs.YtgdbeiadlgkedaaDoor
open Go.RowKit
set_option linter.unusedVariables false
set_option linter.unusedSimpArgs false
theorem word_nil (w : World) : Calls Tryd.prog 63 #[.nilIface] w fun e w' => e = .returned (.string ⟨#[]⟩) ∧ w = w' := by
  go_enter Tryd.func63, Tryd.ntmps63
  go_wp2
  go_ret
  exact ⟨rfl, rfl⟩
theorem fresh_Bf (w : World) : Bf w.heap.size w.heap.size [] (w.alloc (.cells #[.slice none 0 0, .int .i64 0, .int .i8 0] 129)) := Lib.fresh_isBuffer _ _ w
theorem string_any (B b : Nat) (l : List UInt8) (w : World) (h : Bf B b l w) : Calls Tryd.prog 84 #[.pointer (some ⟨b, 0, none⟩)] w fun e w' => e = .returned (.string ⟨l.toArray⟩) ∧ ∃ n, w' = w.drewN n := Tryd.Buffer_String B b l w h
theorem enc_below {w w2 w3 : World} {o o2 : Obj} {n : Nat} (h : Below (w.heap.size + 1) ((w.alloc o).alloc o2) w2) (h3 : w3 = w2.drewN n) : Below w.heap.size w w3 := by
  subst h3
  have h0 : Below w.heap.size w ((w.alloc o).alloc o2) := ((Below.refl _ w).alloc (Nat.le_refl _) _).alloc (by simp) _
  have h1 := h0.trans (h.mono (by simp))
  exact ⟨h1.os, h1.tape, h1.output, h1.size, h1.block⟩
set_option maxHeartbeats 4000000 in
set_option maxRecDepth 100000 in
theorem encVal_11 (fl : Bool) (n u b : Int) (t : ByteArray) (pt : Int) (pf pl : Bool) (pi pn : Int) (w : World) :
    Calls Tryd.prog 27 #[.agg #[.int .i64 11, .bool fl, .int .i64 n, .int .u64 u, .int .u64 b, .string t, .int .i64 pt, .bool pf, .bool pl, .int .i64 pi, .int .i64 pn]] w fun e w' => e = .returned (.tuple #[.string ⟨(Lib.uvarint (u64of n)).toArray⟩, .string ⟨#[]⟩]) ∧ Below w.heap.size w w' := by
  have hF : Bf (w.heap.size + 1) (w.heap.size + 1) [] ((w.alloc (.cells #[.int .i64 11, .bool fl, .int .i64 n, .int .u64 u, .int .u64 b, .string t, .int .i64 pt, .bool pf, .bool pl, .int .i64 pi, .int .i64 pn] 26)).alloc (.cells #[.slice none 0 0, .int .i64 0, .int .i8 0] 129)) := by
    have := fresh_Bf (w.alloc (.cells #[.int .i64 11, .bool fl, .int .i64 n, .int .u64 u, .int .u64 b, .string t, .int .i64 pt, .bool pf, .bool pl, .int .i64 pi, .int .i64 pn] 26)); rwa [World.size_alloc] at this
  have HC := Lib.hid (encVarI_any _ _ n [] _ hF (by decide))
  clear hF
  go_enter Tryd.func27, Tryd.ntmps27
  go_wp2_with (first
    | (go_at_call 82; go_loud (refine HC.out.mono ?_; rintro e_ w1 ⟨rfl, h1, h2, _⟩; have H1 := Lib.hid h1; have H2 := Lib.hid h2; clear h1 h2))
    | (go_at_call 84; refine (string_any _ _ _ _ H1.out).mono ?_; rintro e_ w2 ⟨rfl, q2, hq⟩; have HQ := Lib.hid (enc_below H2.out hq); clear hq)
    | (go_at_call 63; refine (word_nil _).mono ?_; rintro e_ w3 ⟨rfl, rfl⟩))
  all_goals (go_ret2; exact ⟨rfl, HQ.out⟩)
set_option maxHeartbeats 4000000 in
set_option maxRecDepth 100000 in
theorem encVal_12 (fl : Bool) (n u b : Int) (t : ByteArray) (pt : Int) (pf pl : Bool) (pi pn : Int) (w : World) (hu0 : 0 ≤ u) (hu : u < 18446744073709551616) :
    Calls Tryd.prog 27 #[.agg #[.int .i64 12, .bool fl, .int .i64 n, .int .u64 u, .int .u64 b, .string t, .int .i64 pt, .bool pf, .bool pl, .int .i64 pi, .int .i64 pn]] w fun e w' => e = .returned (.tuple #[.string ⟨(Lib.uvarint u.toNat).toArray⟩, .string ⟨#[]⟩]) ∧ Below w.heap.size w w' := by
  have hF : Bf (w.heap.size + 1) (w.heap.size + 1) [] ((w.alloc (.cells #[.int .i64 12, .bool fl, .int .i64 n, .int .u64 u, .int .u64 b, .string t, .int .i64 pt, .bool pf, .bool pl, .int .i64 pi, .int .i64 pn] 26)).alloc (.cells #[.slice none 0 0, .int .i64 0, .int .i8 0] 129)) := by
    have := fresh_Bf (w.alloc (.cells #[.int .i64 12, .bool fl, .int .i64 n, .int .u64 u, .int .u64 b, .string t, .int .i64 pt, .bool pf, .bool pl, .int .i64 pi, .int .i64 pn] 26)); rwa [World.size_alloc] at this
  have HC := Lib.hid ((show _ from by have := encVar_any _ _ u.toNat [] _ hF (by omega) (by decide); rwa [show (u.toNat : Int) = u from by omega] at this))
  clear hu0 hu
  clear hF
  go_enter Tryd.func27, Tryd.ntmps27
  go_wp2_with (first
    | (go_at_call 83; go_loud (refine HC.out.mono ?_; rintro e_ w1 ⟨rfl, h1, h2, _⟩; have H1 := Lib.hid h1; have H2 := Lib.hid h2; clear h1 h2))
    | (go_at_call 84; refine (string_any _ _ _ _ H1.out).mono ?_; rintro e_ w2 ⟨rfl, q2, hq⟩; have HQ := Lib.hid (enc_below H2.out hq); clear hq)
    | (go_at_call 63; refine (word_nil _).mono ?_; rintro e_ w3 ⟨rfl, rfl⟩))
  all_goals (go_ret2; exact ⟨rfl, HQ.out⟩)
set_option maxHeartbeats 4000000 in
set_option maxRecDepth 100000 in
theorem encVal_10 (fl : Bool) (n u b : Int) (t : ByteArray) (pt : Int) (pf pl : Bool) (pi pn : Int) (w : World) (hu0 : 0 ≤ u) (hu : u < 18446744073709551616) :
    Calls Tryd.prog 27 #[.agg #[.int .i64 10, .bool fl, .int .i64 n, .int .u64 u, .int .u64 b, .string t, .int .i64 pt, .bool pf, .bool pl, .int .i64 pi, .int .i64 pn]] w fun e w' => e = .returned (.tuple #[.string ⟨(Lib.beBytes 8 u.toNat).toArray⟩, .string ⟨#[]⟩]) ∧ Below w.heap.size w w' := by
  have hF : Bf (w.heap.size + 1) (w.heap.size + 1) [] ((w.alloc (.cells #[.int .i64 10, .bool fl, .int .i64 n, .int .u64 u, .int .u64 b, .string t, .int .i64 pt, .bool pf, .bool pl, .int .i64 pi, .int .i64 pn] 26)).alloc (.cells #[.slice none 0 0, .int .i64 0, .int .i8 0] 129)) := by
    have := fresh_Bf (w.alloc (.cells #[.int .i64 10, .bool fl, .int .i64 n, .int .u64 u, .int .u64 b, .string t, .int .i64 pt, .bool pf, .bool pl, .int .i64 pi, .int .i64 pn] 26)); rwa [World.size_alloc] at this
  have HC := Lib.hid ((show _ from by have := encU64_any _ _ u.toNat [] _ hF (by omega) (by decide); rwa [show (u.toNat : Int) = u from by omega] at this))
  clear hu0 hu
  clear hF
  go_enter Tryd.func27, Tryd.ntmps27
  go_wp2_with (first
    | (go_at_call 81; go_loud (refine HC.out.mono ?_; rintro e_ w1 ⟨rfl, h1, h2⟩; have H1 := Lib.hid h1; have H2 := Lib.hid h2; clear h1 h2))
    | (go_at_call 84; refine (string_any _ _ _ _ H1.out).mono ?_; rintro e_ w2 ⟨rfl, q2, hq⟩; have HQ := Lib.hid (enc_below H2.out hq); clear hq)
    | (go_at_call 63; refine (word_nil _).mono ?_; rintro e_ w3 ⟨rfl, rfl⟩))
  all_goals (go_ret2; exact ⟨rfl, HQ.out⟩)
set_option maxHeartbeats 4000000 in
set_option maxRecDepth 100000 in
theorem encVal_9 (fl : Bool) (n u b : Int) (t : ByteArray) (pt : Int) (pf pl : Bool) (pi pn : Int) (w : World) :
    Calls Tryd.prog 27 #[.agg #[.int .i64 9, .bool fl, .int .i64 n, .int .u64 u, .int .u64 b, .string t, .int .i64 pt, .bool pf, .bool pl, .int .i64 pi, .int .i64 pn]] w fun e w' => e = .returned (.tuple #[.string ⟨(Lib.beBytes 4 (u % 4294967296).toNat).toArray⟩, .string ⟨#[]⟩]) ∧ Below w.heap.size w w' := by
  have hF : Bf (w.heap.size + 1) (w.heap.size + 1) [] ((w.alloc (.cells #[.int .i64 9, .bool fl, .int .i64 n, .int .u64 u, .int .u64 b, .string t, .int .i64 pt, .bool pf, .bool pl, .int .i64 pi, .int .i64 pn] 26)).alloc (.cells #[.slice none 0 0, .int .i64 0, .int .i8 0] 129)) := by
    have := fresh_Bf (w.alloc (.cells #[.int .i64 9, .bool fl, .int .i64 n, .int .u64 u, .int .u64 b, .string t, .int .i64 pt, .bool pf, .bool pl, .int .i64 pi, .int .i64 pn] 26)); rwa [World.size_alloc] at this
  have HC := Lib.hid ((show _ from by have := encU32_any _ _ (u % 4294967296).toNat [] _ hF (by omega) (by decide); rwa [show ((u % 4294967296).toNat : Int) = u % 4294967296 from by omega] at this))
  clear hF
  go_enter Tryd.func27, Tryd.ntmps27
  go_wp2_with (first
    | (go_at_call 80; go_loud (refine HC.out.mono ?_; rintro e_ w1 ⟨rfl, h1, h2⟩; have H1 := Lib.hid h1; have H2 := Lib.hid h2; clear h1 h2))
    | (go_at_call 84; refine (string_any _ _ _ _ H1.out).mono ?_; rintro e_ w2 ⟨rfl, q2, hq⟩; have HQ := Lib.hid (enc_below H2.out hq); clear hq)
    | (go_at_call 63; refine (word_nil _).mono ?_; rintro e_ w3 ⟨rfl, rfl⟩))
  all_goals (go_ret2; exact ⟨rfl, HQ.out⟩)
set_option maxHeartbeats 4000000 in
set_option maxRecDepth 100000 in
theorem encVal_0 (fl : Bool) (n u b : Int) (t : ByteArray) (pt : Int) (pf pl : Bool) (pi pn : Int) (w : World) :
    Calls Tryd.prog 27 #[.agg #[.int .i64 0, .bool fl, .int .i64 n, .int .u64 u, .int .u64 b, .string t, .int .i64 pt, .bool pf, .bool pl, .int .i64 pi, .int .i64 pn]] w fun e w' => e = .returned (.tuple #[.string ⟨([if fl then 1 else 0]).toArray⟩, .string ⟨#[]⟩]) ∧ Below w.heap.size w w' := by
  have hF : Bf (w.heap.size + 1) (w.heap.size + 1) [] ((w.alloc (.cells #[.int .i64 0, .bool fl, .int .i64 n, .int .u64 u, .int .u64 b, .string t, .int .i64 pt, .bool pf, .bool pl, .int .i64 pi, .int .i64 pn] 26)).alloc (.cells #[.slice none 0 0, .int .i64 0, .int .i8 0] 129)) := by
    have := fresh_Bf (w.alloc (.cells #[.int .i64 0, .bool fl, .int .i64 n, .int .u64 u, .int .u64 b, .string t, .int .i64 pt, .bool pf, .bool pl, .int .i64 pi, .int .i64 pn] 26)); rwa [World.size_alloc] at this
  have HC := Lib.hid (encBool_any _ _ fl [] _ hF (by decide))
  clear hF
  go_enter Tryd.func27, Tryd.ntmps27
  go_wp2_with (first
    | (go_at_call 68; go_loud (refine HC.out.mono ?_; rintro e_ w1 ⟨rfl, h1, h2⟩; have H1 := Lib.hid h1; have H2 := Lib.hid h2; clear h1 h2))
    | (go_at_call 84; refine (string_any _ _ _ _ H1.out).mono ?_; rintro e_ w2 ⟨rfl, q2, hq⟩; have HQ := Lib.hid (enc_below H2.out hq); clear hq)
    | (go_at_call 63; refine (word_nil _).mono ?_; rintro e_ w3 ⟨rfl, rfl⟩))
  all_goals (go_ret2; exact ⟨rfl, HQ.out⟩)
set_option maxHeartbeats 4000000 in
set_option maxRecDepth 100000 in
theorem encVal_1 (fl : Bool) (n u b : Int) (t : ByteArray) (pt : Int) (pf pl : Bool) (pi pn : Int) (w : World) :
    Calls Tryd.prog 27 #[.agg #[.int .i64 1, .bool fl, .int .i64 n, .int .u64 u, .int .u64 b, .string t, .int .i64 pt, .bool pf, .bool pl, .int .i64 pi, .int .i64 pn]] w fun e w' => e = .returned (.tuple #[.string ⟨([(n % 256).toNat.toUInt8]).toArray⟩, .string ⟨#[]⟩]) ∧ Below w.heap.size w w' := by
  have hF : Bf (w.heap.size + 1) (w.heap.size + 1) [] ((w.alloc (.cells #[.int .i64 1, .bool fl, .int .i64 n, .int .u64 u, .int .u64 b, .string t, .int .i64 pt, .bool pf, .bool pl, .int .i64 pi, .int .i64 pn] 26)).alloc (.cells #[.slice none 0 0, .int .i64 0, .int .i8 0] 129)) := by
    have := fresh_Bf (w.alloc (.cells #[.int .i64 1, .bool fl, .int .i64 n, .int .u64 u, .int .u64 b, .string t, .int .i64 pt, .bool pf, .bool pl, .int .i64 pi, .int .i64 pn] 26)); rwa [World.size_alloc] at this
  have HC := Lib.hid ((show _ from by have := encByte_any _ _ (n % 256).toNat.toUInt8 [] _ hF (by decide); rwa [show (((n % 256).toNat.toUInt8.toNat : Nat) : Int) = n % 256 from by rw [u8_toNat (by omega)]; omega] at this))
  clear hF
  go_enter Tryd.func27, Tryd.ntmps27
  go_wp2_with (first
    | (go_at_call 69; go_loud (refine HC.out.mono ?_; rintro e_ w1 ⟨rfl, h1, h2⟩; have H1 := Lib.hid h1; have H2 := Lib.hid h2; clear h1 h2))
    | (go_at_call 84; refine (string_any _ _ _ _ H1.out).mono ?_; rintro e_ w2 ⟨rfl, q2, hq⟩; have HQ := Lib.hid (enc_below H2.out hq); clear hq)
    | (go_at_call 63; refine (word_nil _).mono ?_; rintro e_ w3 ⟨rfl, rfl⟩))
  all_goals (go_ret2; exact ⟨rfl, HQ.out⟩)
set_option maxHeartbeats 4000000 in
set_option maxRecDepth 100000 in
theorem encVal_4 (fl : Bool) (n u b : Int) (t : ByteArray) (pt : Int) (pf pl : Bool) (pi pn : Int) (w : World) (hn0 : -9223372036854775808 ≤ n) (hn1 : n ≤ 9223372036854775807) :
    Calls Tryd.prog 27 #[.agg #[.int .i64 4, .bool fl, .int .i64 n, .int .u64 u, .int .u64 b, .string t, .int .i64 pt, .bool pf, .bool pl, .int .i64 pi, .int .i64 pn]] w fun e w' => e = .returned (.tuple #[.string ⟨(Lib.beBytes 8 (n + 9223372036854775808).toNat).toArray⟩, .string ⟨#[]⟩]) ∧ Below w.heap.size w w' := by
  have hF : Bf (w.heap.size + 1) (w.heap.size + 1) [] ((w.alloc (.cells #[.int .i64 4, .bool fl, .int .i64 n, .int .u64 u, .int .u64 b, .string t, .int .i64 pt, .bool pf, .bool pl, .int .i64 pi, .int .i64 pn] 26)).alloc (.cells #[.slice none 0 0, .int .i64 0, .int .i8 0] 129)) := by
    have := fresh_Bf (w.alloc (.cells #[.int .i64 4, .bool fl, .int .i64 n, .int .u64 u, .int .u64 b, .string t, .int .i64 pt, .bool pf, .bool pl, .int .i64 pi, .int .i64 pn] 26)); rwa [World.size_alloc] at this
  have HC := Lib.hid (encTime_any _ _ n [] _ hn0 hn1 hF (by decide))
  clear hn0 hn1
  clear hF
  go_enter Tryd.func27, Tryd.ntmps27
  go_wp2_with (first
    | (go_at_call 73; go_loud (refine HC.out.mono ?_; rintro e_ w1 ⟨rfl, h1, h2⟩; have H1 := Lib.hid h1; have H2 := Lib.hid h2; clear h1 h2))
    | (go_at_call 84; refine (string_any _ _ _ _ H1.out).mono ?_; rintro e_ w2 ⟨rfl, q2, hq⟩; have HQ := Lib.hid (enc_below H2.out hq); clear hq)
    | (go_at_call 63; refine (word_nil _).mono ?_; rintro e_ w3 ⟨rfl, rfl⟩))
  all_goals (go_ret2; exact ⟨rfl, HQ.out⟩)
set_option maxHeartbeats 4000000 in
set_option maxRecDepth 100000 in
theorem encVal_5 (fl : Bool) (n u b : Int) (t : ByteArray) (pt : Int) (pf pl : Bool) (pi pn : Int) (w : World) :
    Calls Tryd.prog 27 #[.agg #[.int .i64 5, .bool fl, .int .i64 n, .int .u64 u, .int .u64 b, .string t, .int .i64 pt, .bool pf, .bool pl, .int .i64 pi, .int .i64 pn]] w fun e w' => e = .returned (.tuple #[.string ⟨(Lib.beBytes 4 (wrap32 n % 4294967296).toNat).toArray⟩, .string ⟨#[]⟩]) ∧ Below w.heap.size w w' := by
  have hF : Bf (w.heap.size + 1) (w.heap.size + 1) [] ((w.alloc (.cells #[.int .i64 5, .bool fl, .int .i64 n, .int .u64 u, .int .u64 b, .string t, .int .i64 pt, .bool pf, .bool pl, .int .i64 pi, .int .i64 pn] 26)).alloc (.cells #[.slice none 0 0, .int .i64 0, .int .i8 0] 129)) := by
    have := fresh_Bf (w.alloc (.cells #[.int .i64 5, .bool fl, .int .i64 n, .int .u64 u, .int .u64 b, .string t, .int .i64 pt, .bool pf, .bool pl, .int .i64 pi, .int .i64 pn] 26)); rwa [World.size_alloc] at this
  have HC := Lib.hid (encI32_any _ _ (wrap32 n) [] _ hF (by decide))
  clear hF
  go_enter Tryd.func27, Tryd.ntmps27
  go_wp2_with (first
    | (go_at_call 74; go_loud (refine HC.out.mono ?_; rintro e_ w1 ⟨rfl, h1, h2⟩; have H1 := Lib.hid h1; have H2 := Lib.hid h2; clear h1 h2))
    | (go_at_call 84; refine (string_any _ _ _ _ H1.out).mono ?_; rintro e_ w2 ⟨rfl, q2, hq⟩; have HQ := Lib.hid (enc_below H2.out hq); clear hq)
    | (go_at_call 63; refine (word_nil _).mono ?_; rintro e_ w3 ⟨rfl, rfl⟩))
  all_goals (go_ret2; exact ⟨rfl, HQ.out⟩)
set_option maxHeartbeats 4000000 in
set_option maxRecDepth 100000 in
theorem encVal_3 (fl : Bool) (n u b : Int) (t : ByteArray) (pt : Int) (pf pl : Bool) (pi pn : Int) (w : World) (hb0 : 0 ≤ b) (hb1 : b < 18446744073709551616) :
    Calls Tryd.prog 27 #[.agg #[.int .i64 3, .bool fl, .int .i64 n, .int .u64 u, .int .u64 b, .string t, .int .i64 pt, .bool pf, .bool pl, .int .i64 pi, .int .i64 pn]] w fun e w' => e = .returned (.tuple #[.string ⟨(Lib.beBytes 8 b.toNat).toArray⟩, .string ⟨#[]⟩]) ∧ Below w.heap.size w w' := by
  have hF : Bf (w.heap.size + 1) (w.heap.size + 1) [] ((w.alloc (.cells #[.int .i64 3, .bool fl, .int .i64 n, .int .u64 u, .int .u64 b, .string t, .int .i64 pt, .bool pf, .bool pl, .int .i64 pi, .int .i64 pn] 26)).alloc (.cells #[.slice none 0 0, .int .i64 0, .int .i8 0] 129)) := by
    have := fresh_Bf (w.alloc (.cells #[.int .i64 3, .bool fl, .int .i64 n, .int .u64 u, .int .u64 b, .string t, .int .i64 pt, .bool pf, .bool pl, .int .i64 pi, .int .i64 pn] 26)); rwa [World.size_alloc] at this
  have HC := Lib.hid (encF64_any _ _ b.toNat [] _ hF (by omega) (by decide))
  have fb : ∀ W, (callFunc 72 #[.int .u64 b]).run Tryd.prog W = .ok (.value (.float .f64 b.toNat)) W := fun _ => by kernel_rfl
  clear hb0 hb1
  clear hF
  go_enter Tryd.func27, Tryd.ntmps27
  go_wp2_with (first
    | (go_at_call 71; go_loud (refine HC.out.mono ?_; rintro e_ w1 ⟨rfl, h1, h2⟩; have H1 := Lib.hid h1; have H2 := Lib.hid h2; clear h1 h2))
    | (go_at_call 84; refine (string_any _ _ _ _ H1.out).mono ?_; rintro e_ w2 ⟨rfl, q2, hq⟩; have HQ := Lib.hid (enc_below H2.out hq); clear hq)
    | (go_at_call 63; refine (word_nil _).mono ?_; rintro e_ w3 ⟨rfl, rfl⟩))
  all_goals (go_ret2; exact ⟨rfl, HQ.out⟩)
set_option maxHeartbeats 4000000 in
set_option maxRecDepth 100000 in
theorem encVal_7 (fl : Bool) (n u b : Int) (t : ByteArray) (pt : Int) (pf pl : Bool) (pi pn : Int) (w : World) (hb0 : 0 ≤ b) (hb1 : b < 18446744073709551616) :
    Calls Tryd.prog 27 #[.agg #[.int .i64 7, .bool fl, .int .i64 n, .int .u64 u, .int .u64 b, .string t, .int .i64 pt, .bool pf, .bool pl, .int .i64 pi, .int .i64 pn]] w fun e w' => e = .returned (.tuple #[.string ⟨(Lib.beBytes 4 (b % 4294967296).toNat).toArray⟩, .string ⟨#[]⟩]) ∧ Below w.heap.size w w' := by
  have hF : Bf (w.heap.size + 1) (w.heap.size + 1) [] ((w.alloc (.cells #[.int .i64 7, .bool fl, .int .i64 n, .int .u64 u, .int .u64 b, .string t, .int .i64 pt, .bool pf, .bool pl, .int .i64 pi, .int .i64 pn] 26)).alloc (.cells #[.slice none 0 0, .int .i64 0, .int .i8 0] 129)) := by
    have := fresh_Bf (w.alloc (.cells #[.int .i64 7, .bool fl, .int .i64 n, .int .u64 u, .int .u64 b, .string t, .int .i64 pt, .bool pf, .bool pl, .int .i64 pi, .int .i64 pn] 26)); rwa [World.size_alloc] at this
  have HC := Lib.hid (encF32_any _ _ (b % 4294967296).toNat [] _ hF (by omega) (by decide))
  have fb : ∀ W, (callFunc 78 #[.int .u32 (b % 4294967296)]).run Tryd.prog W = .ok (.value (.float .f32 (b % 4294967296).toNat)) W := fun _ => by kernel_rfl
  clear hb0 hb1
  clear hF
  go_enter Tryd.func27, Tryd.ntmps27
  go_wp2_with (first
    | (go_at_call 77; go_loud (refine HC.out.mono ?_; rintro e_ w1 ⟨rfl, h1, h2⟩; have H1 := Lib.hid h1; have H2 := Lib.hid h2; clear h1 h2))
    | (go_at_call 84; refine (string_any _ _ _ _ H1.out).mono ?_; rintro e_ w2 ⟨rfl, q2, hq⟩; have HQ := Lib.hid (enc_below H2.out hq); clear hq)
    | (go_at_call 63; refine (word_nil _).mono ?_; rintro e_ w3 ⟨rfl, rfl⟩))
  all_goals (go_ret2; exact ⟨rfl, HQ.out⟩)
end Go.Proofs.YtgdbeiadlgkedaaDoor
namespace Go.Proofs.YtgdbeiadlgkedaaDoor
open Go.RowKit
set_option linter.unusedVariables false
set_option linter.unusedSimpArgs false
set_option maxHeartbeats 2000000 in
set_option maxRecDepth 100000 in
theorem decByte_ok (r g : Nat) (l : List UInt8) (i : Nat) (x : UInt8) (w : World) (h : Rd r g l i w) (hx : l[i]? = some x) :
    Calls Tryd.prog 47 #[rdI r] w fun e w' => e = .returned (.tuple #[.int .u8 x.toNat, .nilIface]) ∧ w.grownBy w' (some r) ∧ Rd r g l (i + 1) w' := by
  have hne := h.ge (.cells #[] 0)
  have hi : i + 1 ≤ l.length := (List.getElem?_eq_some_iff.1 hx).1
  have hC := fix_ok r g l i w.heap.size 1 _ _ _ (h.alloc (.cells #[.int .u8 0] 161)) (by decide) hi (heap_alloc_new w _) hne.1 hne.2 rfl
  have HC := Lib.hid hC
  have HX := Lib.hid (show ((l.drop i).take 1)[0]? = some x by rw [List.getElem?_take_of_lt (by decide), List.getElem?_drop]; exact hx)
  clear hC h hne hi hx
  go_enter Tryd.func47, Tryd.ntmps47
  go_wp2_with (first | (go_at_call 94; go_loud (refine HC.out.mono ?_; rintro e_ w1 ⟨rfl, h1, h2, h3⟩; have H1 := Lib.hid h1; have x0 : w1.cell? ⟨w.heap.size, 0, none⟩ = some (.int .u8 x.toNat) := (h2.get HX.out).trans rfl; have HG := Lib.hid (Two.grown (grown_alloc (grown_refl (r := r) w) _) h3 (Nat.le_refl _)); clear h1 h2 h3)))
  go_ret2
  exact ⟨rfl, HG.out, H1.out⟩
set_option maxHeartbeats 2000000 in
set_option maxRecDepth 100000 in
theorem decBool_0 (r g : Nat) (l : List UInt8) (i : Nat) (x : UInt8) (w : World) (h : Rd r g l i w) (hx : l[i]? = some x) (h0 : x = 0) :
    Calls Tryd.prog 46 #[rdI r] w fun e w' => e = .returned (.tuple #[.bool false, .nilIface]) ∧ w.grownBy w' (some r) ∧ Rd r g l (i + 1) w' := by
  have hne := h.ge (.cells #[] 0)
  have hi : i + 1 ≤ l.length := (List.getElem?_eq_some_iff.1 hx).1
  have hC := fix_ok r g l i w.heap.size 1 _ _ _ (h.alloc (.cells #[.int .u8 0] 161)) (by decide) hi (heap_alloc_new w _) hne.1 hne.2 rfl
  have HC := Lib.hid hC
  have HX := Lib.hid (show ((l.drop i).take 1)[0]? = some x by rw [List.getElem?_take_of_lt (by decide), List.getElem?_drop]; exact hx)
  subst h0
  clear hC h hne hi hx
  go_enter Tryd.func46, Tryd.ntmps46
  go_wp2_with (first | (go_at_call 94; go_loud (refine HC.out.mono ?_; rintro e_ w1 ⟨rfl, h1, h2, h3⟩; have H1 := Lib.hid h1; have x0 : w1.cell? ⟨w.heap.size, 0, none⟩ = some (.int .u8 0) := (h2.get HX.out).trans rfl; have HG := Lib.hid (Two.grown (grown_alloc (grown_refl (r := r) w) _) h3 (Nat.le_refl _)); clear h1 h2 h3)))
  go_ret2
  exact ⟨rfl, HG.out, H1.out⟩
set_option maxHeartbeats 2000000 in
set_option maxRecDepth 100000 in
theorem decBool_1 (r g : Nat) (l : List UInt8) (i : Nat) (x : UInt8) (w : World) (h : Rd r g l i w) (hx : l[i]? = some x) (h0 : x = 1) :
    Calls Tryd.prog 46 #[rdI r] w fun e w' => e = .returned (.tuple #[.bool true, .nilIface]) ∧ w.grownBy w' (some r) ∧ Rd r g l (i + 1) w' := by
  have hne := h.ge (.cells #[] 0)
  have hi : i + 1 ≤ l.length := (List.getElem?_eq_some_iff.1 hx).1
  have hC := fix_ok r g l i w.heap.size 1 _ _ _ (h.alloc (.cells #[.int .u8 0] 161)) (by decide) hi (heap_alloc_new w _) hne.1 hne.2 rfl
  have HC := Lib.hid hC
  have HX := Lib.hid (show ((l.drop i).take 1)[0]? = some x by rw [List.getElem?_take_of_lt (by decide), List.getElem?_drop]; exact hx)
  subst h0
  clear hC h hne hi hx
  go_enter Tryd.func46, Tryd.ntmps46
  go_wp2_with (first | (go_at_call 94; go_loud (refine HC.out.mono ?_; rintro e_ w1 ⟨rfl, h1, h2, h3⟩; have H1 := Lib.hid h1; have x0 : w1.cell? ⟨w.heap.size, 0, none⟩ = some (.int .u8 1) := (h2.get HX.out).trans rfl; have HG := Lib.hid (Two.grown (grown_alloc (grown_refl (r := r) w) _) h3 (Nat.le_refl _)); clear h1 h2 h3)))
  go_ret2
  exact ⟨rfl, HG.out, H1.out⟩
end Go.Proofs.YtgdbeiadlgkedaaDoor
