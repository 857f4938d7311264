/- Contract: a row's header is written. -/
import Derived.Test.YtgdbeiadlgkedaaDoorRhH
import Derived.Outline
set_option linter.unusedVariables false
set_option linter.unusedSimpArgs false
namespace Go.Proofs.YtgdbeiadlgkedaaDoor
open Go.RowKit Go.Proofs.YtgdbeiadlgkedaaDoorW.PrintWords Go.Proofs.YtgdbeiadlgkedaaDoorW.PrintLast Go.Proofs.YtgdbeiadlgkedaaDoorW.PrintMore
def mkc (c : Nat) : Obj := .cells (madeCells #[.int .u8 0] (c * 1)) 5
theorem mkc_run (c : Nat) (hc : c ≤ 2000) : ∀ W : World, (Instr.makeSlice 29 (.int .i64 0) (.int .i64 (c : Int))).run Tryd.prog W = .ok (.slice (some ⟨W.heap.size, 0, none⟩) 0 c) (W.alloc (mkc c)) := by
  intro W
  obtain ⟨i, hi, hz, hs, hb⟩ := info_parts info_u8
  have h := run_makeSlice (P := Tryd.prog) W 29 5 i _ Tryd.underlying29 hi hz .i64 .i64 (0 : Int) (c : Int) (by omega) (by omega) (by rw [hs]; simp; omega) (by rw [hb]; simp; omega) (by omega)
  rw [hs, show (Value.int .u8 0).cells = #[.int .u8 0] from rfl] at h
  simpa [mkc] using h
theorem mkc_own (W : World) (c base : Nat) (l : List Bool) (hc : c ≤ 2000) (hb : base ≤ W.heap.size) : (W.alloc (mkc c)).ownsRow base 5 1 (.slice (some ⟨W.heap.size, 0, none⟩) 0 c) 0 (Lib.byteCells (rowB l 0)) :=
  World.ownsRow_made W _ c hb (by unfold maxLen; omega) (by rw [size_madeCells])
def CF (gC : Nat) : Value := .func (.func 93) #[] #[.pointer (some ⟨gC, 0, none⟩)]
/-- The closure's list, apart from the buffer. -/
def NB (b gC : Nat) (A : Option Addr) (cA : Nat) (l : List Bool) (w : World) : Prop :=
  w.heap[gC]? = some (.cells #[.slice A l.length cA] 75 (0, 0)) ∧ gC ≠ b ∧ ∀ i, i < l.length → ∃ ad, A = some ad ∧ ad.block ≠ b ∧ w.cell? (ad.add i) = some (.bool (isN l i))
theorem NB.kept {b g gC : Nat} {A : Option Addr} {cA : Nat} {l : List Bool} {w w' : World} (h : NB b gC A cA l w) (hg : w.heap.size ≤ g) (hk : Kp b g w w') : NB b gC A cA l w' := by
  obtain ⟨h1, h2, h3⟩ := h
  have hlt := blk_lt h1
  refine ⟨(hk.2.2.2.2 gC hlt h2 (by omega)).trans h1, h2, fun i hi => ?_⟩
  obtain ⟨ad, e, hb, hc⟩ := h3 i hi
  have hl : ad.block < w.heap.size := by have := World.block_lt_of_cell? _ _ hc; rwa [Go.ChangeShapes.block_add] at this
  exact ⟨ad, e, hb, (World.cell?_of_block (a := ad.add i) (by rw [Go.ChangeShapes.block_add]; exact hk.2.2.2.2 ad.block hl hb (by omega))).trans hc⟩
theorem NB.below {b gC : Nat} {A : Option Addr} {cA : Nat} {l : List Bool} {w w' : World} (h : NB b gC A cA l w) (hb : Below w.heap.size w w') : NB b gC A cA l w' := h.kept (g := w.heap.size) (Nat.le_refl _) (Kp.below hb)
theorem nil_nb (b g : Nat) (A : Option Addr) (c : Nat) (l : List Bool) (i : Nat) (w : World) (hN : NB b g A c l w) (hl : l.length ≤ 200) :
    Calls Tryd.prog 93 #[.int .i64 i, .pointer (some ⟨g, 0, none⟩)] w fun e w' => e = .returned (.bool (isN l i)) ∧ w = w' := by
  obtain ⟨hg, _, hC⟩ := hN
  have x0 := (blk_cell hg 0).trans (rfl : _ = some (Value.slice A l.length c))
  have q1 : (l.length : Int) ≤ 200 := by omega
  clear hg
  by_cases h : i < l.length
  · obtain ⟨ad, rfl, _, y0⟩ := hC i h
    clear hC hl
    go_enter Tryd.func93, Tryd.ntmps93
    go_wp2
    go_ret
    exact ⟨rfl, rfl⟩
  · have HN := Lib.hid (isN_out (l := l) (i := i) (by omega))
    clear hC hl
    rw [HN.out]
    go_enter Tryd.func93, Tryd.ntmps93
    go_wp2
    go_ret
    exact ⟨rfl, rfl⟩
theorem row_mod (i m : Nat) (hm : i % 8 = m) : m < 8 ∧ (i : Int).tmod 8 = (m : Int) ∧ (m : Int) < 8 := by
  have h7 : m < 8 := by omega
  exact ⟨h7, by rw [← hm]; exact (Int.ofNat_tmod i 8).symm, by omega⟩
theorem row_ne {i : Nat} (h : ¬ i = 0) : ((i : Int) != 0) = true := bne_iff_ne.2 (by omega)
theorem row_ne2 {i m : Nat} (h : ¬ i = 0) (h0 : ¬ (i ≠ 0 ∧ i % 8 = 0)) (hm : i % 8 = m) : ((m : Int) == 0) = false := beq_eq_false_iff_ne.2 (by omega)
theorem row_step (l : List Bool) (i : Nat) : pkU l (i / 8) (i + 1) = pkU l (i / 8) i + (if isN l i = true then 2 ^ (i % 8) else 0) := by
  rw [pkU]
  by_cases h : isN l i = true
  · rw [if_pos ⟨rfl, h⟩, if_pos h]
  · rw [if_neg (fun e => h e.2), if_neg h]; rfl
theorem row_eq {i : Nat} (h : i = 0) : ((i : Int) != 0) = false := by subst h; rfl
theorem row_jn {i j n gk : Nat} (h : j = (i - 1) / 8) (hk : gk + i = n) (hn : (n : Int) ≤ 10000) : j + 1 ≤ 10000 := by omega
theorem row_app {l : List Bool} {i j cur : Nat} (hj : j = (i - 1) / 8) (hc : cur = pkU l j i) (h0 : i ≠ 0) (hm : i % 8 = 0) : rowB l (j + 1) = rowB l j ++ [cur.toUInt8] := by
  have e : i = 8 * j + 8 := by omega
  rw [rowB_succ, hc, ← e]
theorem row_end0 {l : List Bool} {i j cur n gk : Nat} {last : Int} (hj : j = (i - 1) / 8) (hc : cur = pkU l j i) (ha : last = lastB l i) (hk : gk + i = n) (hlt : i < n) (h0 : ¬ (i ≠ 0 ∧ i % 8 = 0)) (hx : isN l i = false) :
    gk - 1 < gk ∧ gk - 1 + (i + 1) = n ∧ j = (i + 1 - 1) / 8 ∧ cur = pkU l j (i + 1) ∧ last = lastB l (i + 1) := by
  have hj2 : j = i / 8 := by omega
  refine ⟨by omega, by omega, by omega, ?_, ?_⟩
  · rw [hc, hj2, row_step, hx]; rfl
  · rw [ha, lastB, hx]; rfl
theorem row_end1 {l : List Bool} {i j cur n gk m : Nat} {last : Int} (hj : j = (i - 1) / 8) (hc : cur = pkU l j i) (ha : last = lastB l i) (hm : i % 8 = m) (hk : gk + i = n) (hlt : i < n) (h0 : ¬ (i ≠ 0 ∧ i % 8 = 0)) (hx : isN l i = true) :
    gk - 1 < gk ∧ gk - 1 + (i + 1) = n ∧ j = (i + 1 - 1) / 8 ∧ cur + 2 ^ m = pkU l j (i + 1) ∧ (j : Int) = lastB l (i + 1) := by
  have hj2 : j = i / 8 := by omega
  refine ⟨by omega, by omega, by omega, ?_, ?_⟩
  · rw [hc, hj2, row_step, hx, if_pos rfl, hm]
  · rw [lastB, hx, if_pos rfl, hj2]
theorem row_end2 {l : List Bool} {i j n gk : Nat} (hj : j = (i - 1) / 8) (hk : gk + i = n) (hlt : i < n) (h0 : i ≠ 0) (hm : i % 8 = 0) (hx : isN l i = true) :
    gk - 1 < gk ∧ gk - 1 + (i + 1) = n ∧ j + 1 = (i + 1 - 1) / 8 ∧ 1 = pkU l (j + 1) (i + 1) ∧ ((j + 1 : Nat) : Int) = lastB l (i + 1) := by
  have hj2 : j + 1 = i / 8 := by omega
  refine ⟨by omega, by omega, by omega, ?_, ?_⟩
  · rw [hj2, row_step, hx, if_pos rfl, pkU_low l (i / 8) i (by omega), hm]
  · rw [lastB, hx, if_pos rfl, hj2]
theorem row_end3 {l : List Bool} {i j n gk : Nat} {last : Int} (hj : j = (i - 1) / 8) (ha : last = lastB l i) (hk : gk + i = n) (hlt : i < n) (h0 : i ≠ 0) (hm : i % 8 = 0) (hx : isN l i = false) :
    gk - 1 < gk ∧ gk - 1 + (i + 1) = n ∧ j + 1 = (i + 1 - 1) / 8 ∧ 0 = pkU l (j + 1) (i + 1) ∧ last = lastB l (i + 1) := by
  have hj2 : j + 1 = i / 8 := by omega
  refine ⟨by omega, by omega, by omega, ?_, ?_⟩
  · rw [hj2, row_step, hx, pkU_low l (i / 8) i (by omega)]; rfl
  · rw [ha, lastB, hx]; rfl
theorem row_or {l : List Bool} {i j cur m p : Nat} (hj : j = (i - 1) / 8) (hc : cur = pkU l j i) (hm : i % 8 = m) (h0 : ¬ (i ≠ 0 ∧ i % 8 = 0)) (k : Fin 8) (hk : k = ⟨m, by omega⟩) (hp : p = 2 ^ (k : Nat)) : Go.bits .or .u8 (cur : Int) (p : Int) = ((cur + p : Nat) : Int) := by
  have hj2 : j = i / 8 := by omega
  have h1 := pkU_lt l j i (by omega) (by omega)
  rw [← hc, show i - 8 * j = m by omega] at h1
  have h3 : cur < 256 := by rw [hc]; exact pkU_256 l j i
  subst hk
  have h2 := or_bit ⟨m, by omega⟩ ⟨cur, h3⟩ h1
  subst hp
  exact h2
theorem row_pow : ∀ k : Fin 8, ((2 : Int) ^ (k : Nat)) % 256 = ((2 ^ (k : Nat) : Nat) : Int) := by decide
theorem row_or2 {l : List Bool} {i j cur m : Nat} (hj : j = (i - 1) / 8) (hc : cur = pkU l j i) (hm : i % 8 = m) (h0 : ¬ (i ≠ 0 ∧ i % 8 = 0)) (h7 : m < 8) : Go.bits .or .u8 (cur : Int) ((2 : Int) ^ m % 256) = ((cur + 2 ^ m : Nat) : Int) := by
  have e := row_pow ⟨m, h7⟩
  simp only at e
  rw [e]
  exact row_or hj hc hm h0 ⟨m, h7⟩ rfl rfl
theorem row_form {w : World} {base m : Nat} {v : Value} {xs : List Value} (h : w.ownsRow base 5 1 v (m + 1) xs) : ∃ g cap, v = .slice (some ⟨g, 0, none⟩) (m + 1) cap := by
  rcases h.2 with ⟨_, h0⟩ | ⟨g, cap, _, e, _⟩
  · omega
  · exact ⟨g, cap, e⟩
theorem row_in {i n gk : Nat} (hk : gk + i = n) (hlt : ¬ i < n) : n = i := by omega
theorem row_last {l : List Bool} {n k : Nat} {last : Int} (ha : last = lastB l n) (hk : k = (lastB l n + 1).toNat) : last + 1 = (k : Int) := by have := lastB_bd l n; omega
theorem row_kle {j k : Nat} (h : k ≤ j + 1) (hj : j + 1 ≤ 10000) : (k : Int) ≤ 10000 := by omega
theorem row_caps {w : World} {base j k g cap : Nat} {xs : List Value} (h : w.ownsRow base 5 1 (.slice (some ⟨g, 0, none⟩) (j + 1) cap) (j + 1) xs) (hk : k ≤ j + 1) : k ≤ cap ∧ (k : Int) ≤ (cap : Int) ∧ base ≤ g := by
  rcases h.2 with ⟨h0, _⟩ | ⟨g', cap', _, e, hb, _, hn, _⟩
  · cases h0
  · injection e with e1 e2 e3
    injection e1 with e1
    injection e1 with e1
    subst e3 e1
    exact ⟨by omega, by omega, hb⟩
theorem row_lt {b g : Nat} {l : List UInt8} {w1 w2 : World} (h : BR b g l w1) (hb : Below w1.heap.size w1 w2) : g < w2.heap.size := by
  obtain ⟨_, _, _, h2, _⟩ := h
  exact Nat.lt_of_lt_of_le (blk_lt h2) hb.size
theorem row_len1 {l : List Bool} (n k : Nat) (hl : l.length ≤ 200) (hk : (rbytes l).length = k) : (Lib.uvarint (u64of (n : Int)) ++ Lib.uvarint (u64of (k : Int))).length < 64 := by
  have h1 := Lib.uvarint_length64 (u64of_lt (n : Int))
  have h2 := Lib.uvarint_length64 (u64of_lt (k : Int))
  rw [List.length_append]; omega
theorem rbytes_26 (l : List Bool) (hl : l.length ≤ 200) : (rbytes l).length ≤ 25 := by
  have := lastB_bd l l.length
  unfold rbytes
  rw [List.length_map, List.length_range]
  omega
theorem row_len2 {l : List Bool} (n k : Nat) (hl : l.length ≤ 200) (hk : (rbytes l).length = k) : (Lib.uvarint (u64of (n : Int)) ++ Lib.uvarint (u64of (k : Int))).length + k ≤ 64 := by
  have h1 := Lib.uvarint_length64 (u64of_lt (n : Int))
  have h2 := Lib.uvarint_length64 (u64of_lt (k : Int))
  have h3 := rbytes_26 l hl
  rw [List.length_append]; omega
theorem row_ne1 {b g g1 : Nat} {w w1 : World} (hb : b < w.heap.size) (hk : Kp b g w w1) (hg : w1.heap.size ≤ g1) : (⟨g1, 0, none⟩ : Addr).block ≠ b := by
  have := hk.2.2.2.1
  show g1 ≠ b
  omega
theorem row_ne3 {b g g1 : Nat} {l : List UInt8} {w1 : World} (h : BR b g l w1) (hg : w1.heap.size ≤ g1) : (⟨g1, 0, none⟩ : Addr).block ≠ g := by
  obtain ⟨_, _, _, h2, _⟩ := h
  have := blk_lt h2
  show g1 ≠ g
  omega
theorem row_glt {w : World} {base j g cap : Nat} {xs : List Value} (h : w.ownsRow base 5 1 (.slice (some ⟨g, 0, none⟩) (j + 1) cap) (j + 1) xs) : (⟨g, 0, none⟩ : Addr).block < w.heap.size := (h.lt g rfl).2
theorem row_at {w : World} {base j k g cap : Nat} {s l2 : List UInt8} (h : w.ownsRow base 5 1 (.slice (some ⟨g, 0, none⟩) (j + 1) cap) (j + 1) (Lib.byteCells s)) (hl : s.take k = l2) : At w ⟨g, 0, none⟩ l2 := fun q x hq => by
  rw [← hl, List.getElem?_take] at hq
  split at hq
  · exact h.cells (g := g) rfl q _ (by rw [Lib.byteCells, List.getElem?_map, hq]; rfl)
  · cases hq
theorem row_len0 (t : Int) : (Lib.uvarint (u64of t)).length + 10 ≤ 64 := by have := Lib.uvarint_length64 (u64of_lt t); omega
theorem row_BR {b g : Nat} {l : List UInt8} {w1 w2 : World} (h : BR b g l w1) (hb : Below w1.heap.size w1 w2) : BR b g l w2 := h.below hb
theorem row_done {b g n k : Nat} {l : List Bool} {w w1 w2 w3 w4 : World} (hk : (rbytes l).length = k) (hg : w.heap.size ≤ g) (h1 : Kp b g w w1) (h2 : Below w1.heap.size w1 w2) (h3 : Kp b g w2 w3) (h4 : BR b g ((Lib.uvarint (u64of (n : Int)) ++ Lib.uvarint (u64of (k : Int))) ++ (rbytes l).map Nat.toUInt8) w4 ∧ Kp b g w3 w4) (hn : n ≤ 10000) (hl : l.length ≤ 200) :
    ∃ g, w.heap.size ≤ g ∧ BR b g (rhead n l) w4 ∧ Kp b g w w4 := by
  refine ⟨g, hg, ?_, ((h1.trans (Kp.below h2)).trans h3).trans h4.2⟩
  have e := h4.1
  have := rbytes_26 l hl
  rw [u64of_nat n (by omega), u64of_nat k (by omega), List.append_assoc] at e
  unfold rhead
  rw [hk]
  exact e
set_option maxHeartbeats 8000000 in
set_option maxRecDepth 100000 in
theorem writeRow_any (b gC : Nat) (A : Option Addr) (cA n : Nat) (l : List Bool) (w : World) (hn : n ≤ 10000) (hl : l.length ≤ 200) (hln : l.length ≤ n) (hb : w.heap[b]? = some (.cells #[.slice none 0 0, .int .i64 0, .int .i8 0] 129 (0, 0)))
    (hN : NB b gC A cA l w) :
    Calls Tryd.prog 92 #[.int .i64 n, CF gC, bfI b] w fun e w' => e = .returned .nilIface ∧ ∃ g, w.heap.size ≤ g ∧ BR b g (rhead n l) w' ∧ Kp b g w w' := by
  unfold CF
  obtain ⟨q, hq⟩ : ∃ q, Hid (n / 8 = q) := ⟨_, Lib.hid rfl⟩
  have a1 : (n : Int).tdiv 8 = (q : Int) := by rw [← hq.out]; exact (Int.ofNat_tdiv n 8).symm
  have a3 : wrap64 (q : Int) = (q : Int) := by have := hq.out; unfold wrap64; omega
  have q1 : (q : Int) ≤ 1250 := by have := hq.out; omega
  obtain ⟨c, hc⟩ : ∃ c, Hid (q + 1 = c) := ⟨_, Lib.hid rfl⟩
  have a4 : (q : Int) + 1 = (c : Int) := by have := hc.out; omega
  have HCL := Lib.hid (show c ≤ 2000 by have := hc.out; omega)
  have hmk := mkc_run c HCL.out
  have q2 : (n : Int) ≤ 10000 := by omega
  obtain ⟨i0, hi, hz0, hz1, hz2⟩ := info_parts info_u8
  have H0 := Lib.hid (encI_first b (n : Int) w hb)
  have HN := Lib.hid hN
  have HL := Lib.hid (And.intro hl hln)
  have HN4 := Lib.hid hn
  have HBL := Lib.hid (blk_lt hb)
  clear hb hN hl hln hn
  go_enter Tryd.func92, Tryd.ntmps92
  go_wp2_with (go_at_call 82; go_loud (refine H0.out.mono ?_; rintro e_ w1 ⟨rfl, g, h1, h2, h3⟩; have H1 := Lib.hid (And.intro h1 (And.intro h2 h3)); have HN1 := Lib.hid (HN.out.kept h1 h3); clear h1 h2 h3))
  go_loopg [8, 9, 10, 11] n (fun kq v8 v9 v10 v11 wr => ∃ (i j cur : Nat) (last : Int) (g0 cap : Nat), kq + i = n ∧ v8 = .int .u8 (cur : Int) ∧ v9 = .int .i64 last ∧ v11 = .int .i64 (i : Int) ∧ v10 = .slice (some ⟨g0, 0, none⟩) j cap ∧ Hid (j = (i - 1) / 8) ∧ Hid (cur = pkU l j i) ∧ Hid (last = lastB l i) ∧ Hid (wr.ownsRow w1.heap.size 5 1 (.slice (some ⟨g0, 0, none⟩) j cap) j (Lib.byteCells (rowB l j))) ∧ Hid (Below w1.heap.size w1 wr))
  case atStart => exact ⟨0, 0, 0, -1, w1.heap.size, c, rfl, rfl, rfl, rfl, rfl, Lib.hid rfl, Lib.hid rfl, Lib.hid rfl, Lib.hid (mkc_own w1 c _ l HCL.out (Nat.le_refl _)), Lib.hid ((Below.refl _ w1).alloc (Nat.le_refl _) _)⟩
  case round =>
    clear a1 a3 a4 hmk q1 H0 HN
    obtain ⟨i, j, cur, last, g0, cap, hki, rfl, rfl, rfl, rfl, HJ, HC, HA, HO, HB⟩ := hrel
    have HNr := Lib.hid (HN1.out.below HB.out)
    have HP := Lib.hid (HC.out ▸ pkU_256 l j i)
    have HJn := Lib.hid (row_jn HJ.out hki q2)
    by_cases hlt : i < n
    · obtain ⟨m, HM⟩ : ∃ m, Hid (i % 8 = m) := ⟨_, Lib.hid rfl⟩
      obtain ⟨hm7, b1, b4⟩ := row_mod i m HM.out
      by_cases h0 : i ≠ 0 ∧ i % 8 = 0
      · obtain ⟨hi0, hm0⟩ := h0
        obtain rfl : m = 0 := HM.out.symm.trans hm0
        replace b1 : (i : Int).tmod 8 = 0 := b1
        clear b4
        have c1 : ((i : Int) != 0) = true := row_ne hi0
        have HAP := Lib.hid (row_app HJ.out HC.out hi0 hm0)
        have HPB := Lib.hid (show Lib.byteCells (rowB l j) ++ [Value.int .u8 (cur : Int)] = Lib.byteCells (rowB l (j + 1)) by rw [HAP.out, Lib.byteCells_snoc _ HP.out])
        by_cases hx : isN l i = true
        · have HX := Lib.hid (row_end2 (gk := gk) HJ.out hki hlt hi0 hm0 hx)
          have b8 : bits .or .u8 0 1 = 1 := by decide
          clear hi0 hm0 hki
          go_wp2_with (first | (at_builtin; go_loud (refine wpList_append_own _ rfl _ _ 29 rfl w1.heap.size 5 i0 (.int .u8 0) 1 1 Tryd.underlying29 hi hz0 hz1 hz2 rfl (by decide) _ j (Lib.byteCells (rowB l j)) rfl (HO.out.alloc _) ⟨wr.heap.size, 0, none⟩ 1 1 [.int .u8 (cur : Int)] rfl rfl ?c1 ?c2 ?c3 ?c4 ?c5 ?_; (case c1 => exact cell_one_new _ _ _); (case c2 => intro u hu; simp at hu; subst hu; rfl); (case c3 => have := HJn.out; unfold maxLen; omega); (case c4 => have := HJn.out; omega); (case c5 => exact Nat.le_trans HB.out.size (below_alloc (Below.refl wr.heap.size wr) _).size); intro v' w2 hown' hgrow _; have HB1 := Lib.hid (Below.grown (HB.out.alloc HB.out.size _) hgrow (Nat.le_trans HB.out.size (below_alloc (Below.refl wr.heap.size wr) _).size) (fun k hk => (HO.out.lt k hk).1)); rw [HPB.out] at hown'; obtain ⟨g1, cap1, rfl⟩ := row_form hown'; have HO1 := Lib.hid hown'; have HN2 := Lib.hid (HN1.out.below HB1.out); clear hown' hgrow)) | (go_at_call 93; (with_reducible refine (nil_nb b gC A cA l i _ HN2.out HL.out.1).mono ?_); rintro e_ w3 ⟨rfl, rfl⟩; rw [hx]))
          go_roundg (gk - 1)
          case measure => exact HX.out.1
          case rel => exact ⟨i + 1, j + 1, 1, ((j + 1 : Nat) : Int), g1, cap1, HX.out.2.1, rfl, rfl, by first | rfl | go_num, rfl, Lib.hid HX.out.2.2.1, Lib.hid HX.out.2.2.2.1, Lib.hid HX.out.2.2.2.2, HO1, HB1⟩
        · rw [Bool.not_eq_true] at hx
          have HX := Lib.hid (row_end3 (gk := gk) HJ.out HA.out hki hlt hi0 hm0 hx)
          clear hi0 hm0 hki
          go_wp2_with (first | (at_builtin; go_loud (refine wpList_append_own _ rfl _ _ 29 rfl w1.heap.size 5 i0 (.int .u8 0) 1 1 Tryd.underlying29 hi hz0 hz1 hz2 rfl (by decide) _ j (Lib.byteCells (rowB l j)) rfl (HO.out.alloc _) ⟨wr.heap.size, 0, none⟩ 1 1 [.int .u8 (cur : Int)] rfl rfl ?c1 ?c2 ?c3 ?c4 ?c5 ?_; (case c1 => exact cell_one_new _ _ _); (case c2 => intro u hu; simp at hu; subst hu; rfl); (case c3 => have := HJn.out; unfold maxLen; omega); (case c4 => have := HJn.out; omega); (case c5 => exact Nat.le_trans HB.out.size (below_alloc (Below.refl wr.heap.size wr) _).size); intro v' w2 hown' hgrow _; have HB1 := Lib.hid (Below.grown (HB.out.alloc HB.out.size _) hgrow (Nat.le_trans HB.out.size (below_alloc (Below.refl wr.heap.size wr) _).size) (fun k hk => (HO.out.lt k hk).1)); rw [HPB.out] at hown'; obtain ⟨g1, cap1, rfl⟩ := row_form hown'; have HO1 := Lib.hid hown'; have HN2 := Lib.hid (HN1.out.below HB1.out); clear hown' hgrow)) | (go_at_call 93; (with_reducible refine (nil_nb b gC A cA l i _ HN2.out HL.out.1).mono ?_); rintro e_ w3 ⟨rfl, rfl⟩; rw [hx]))
          go_roundg (gk - 1)
          case measure => exact HX.out.1
          case rel => exact ⟨i + 1, j + 1, 0, last, g1, cap1, HX.out.2.1, rfl, rfl, by first | rfl | go_num, rfl, Lib.hid HX.out.2.2.1, Lib.hid HX.out.2.2.2.1, Lib.hid HX.out.2.2.2.2, HO1, HB1⟩
      · have hnoapp := h0
        by_cases hi0 : i = 0
        · obtain rfl : m = 0 := HM.out.symm.trans (by rw [hi0])
          replace b1 : (i : Int).tmod 8 = 0 := b1
          clear b4
          have c1 : ((i : Int) != 0) = false := row_eq hi0
          clear hi0 h0
          by_cases hx : isN l i = true
          · skip
            have HX := Lib.hid (row_end1 (gk := gk) (m := 0) HJ.out HC.out HA.out HM.out hki hlt hnoapp hx)
            have b8 : bits .or .u8 (cur : Int) 1 = ((cur + 1 : Nat) : Int) := row_or (p := 1) HJ.out HC.out HM.out hnoapp ⟨0, by decide⟩ rfl rfl
            obtain ⟨V, hV⟩ : ∃ V, Hid (cur + 1 = V) := ⟨_, Lib.hid rfl⟩
            rw [hV.out] at b8
            rw [show cur + 2 ^ 0 = V from hV.out] at HX
            clear hnoapp hki
            go_wp2_with (go_at_call 93; (with_reducible refine (nil_nb b gC A cA l i _ HNr.out HL.out.1).mono ?_); rintro e_ w3 ⟨rfl, rfl⟩; rw [hx])
            go_roundg (gk - 1)
            case measure => exact HX.out.1
            case rel => exact ⟨i + 1, j, V, (j : Int), g0, cap, HX.out.2.1, rfl, rfl, by first | rfl | go_num, rfl, Lib.hid HX.out.2.2.1, Lib.hid HX.out.2.2.2.1, Lib.hid HX.out.2.2.2.2, HO, HB⟩
          · rw [Bool.not_eq_true] at hx
            have HX := Lib.hid (row_end0 (gk := gk) HJ.out HC.out HA.out hki hlt hnoapp hx)
            clear hnoapp hki
            go_wp2_with (go_at_call 93; (with_reducible refine (nil_nb b gC A cA l i _ HNr.out HL.out.1).mono ?_); rintro e_ w3 ⟨rfl, rfl⟩; rw [hx])
            go_roundg (gk - 1)
            case measure => exact HX.out.1
            case rel => exact ⟨i + 1, j, cur, last, g0, cap, HX.out.2.1, rfl, rfl, by first | rfl | go_num, rfl, Lib.hid HX.out.2.2.1, Lib.hid HX.out.2.2.2.1, Lib.hid HX.out.2.2.2.2, HO, HB⟩
        · have c1 : ((i : Int) != 0) = true := row_ne hi0
          have c2 : ((m : Int) == 0) = false := row_ne2 hi0 h0 HM.out
          clear hi0 h0
          by_cases hx : isN l i = true
          · have HX := Lib.hid (row_end1 (gk := gk) (m := m) HJ.out HC.out HA.out HM.out hki hlt hnoapp hx)
            have b8 := row_or2 HJ.out HC.out HM.out hnoapp hm7
            obtain ⟨V, hV⟩ : ∃ V, Hid (cur + 2 ^ m = V) := ⟨_, Lib.hid rfl⟩
            rw [hV.out] at b8 HX
            clear hnoapp hki
            go_wp2_with (go_at_call 93; (with_reducible refine (nil_nb b gC A cA l i _ HNr.out HL.out.1).mono ?_); rintro e_ w3 ⟨rfl, rfl⟩; rw [hx])
            go_roundg (gk - 1)
            case measure => exact HX.out.1
            case rel => exact ⟨i + 1, j, V, (j : Int), g0, cap, HX.out.2.1, rfl, rfl, by first | rfl | go_num, rfl, Lib.hid HX.out.2.2.1, Lib.hid HX.out.2.2.2.1, Lib.hid HX.out.2.2.2.2, HO, HB⟩
          · rw [Bool.not_eq_true] at hx
            have HX := Lib.hid (row_end0 (gk := gk) HJ.out HC.out HA.out hki hlt hnoapp hx)
            clear hnoapp hki
            go_wp2_with (go_at_call 93; (with_reducible refine (nil_nb b gC A cA l i _ HNr.out HL.out.1).mono ?_); rintro e_ w3 ⟨rfl, rfl⟩; rw [hx])
            go_roundg (gk - 1)
            case measure => exact HX.out.1
            case rel => exact ⟨i + 1, j, cur, last, g0, cap, HX.out.2.1, rfl, rfl, by first | rfl | go_num, rfl, Lib.hid HX.out.2.2.1, Lib.hid HX.out.2.2.2.1, Lib.hid HX.out.2.2.2.2, HO, HB⟩
    · have hin : n = i := row_in hki hlt
      subst hin
      obtain ⟨k, hk⟩ : ∃ k, Hid (k = (lastB l n + 1).toNat) := ⟨_, Lib.hid rfl⟩
      have HRE := Lib.hid (row_end l n j k HJ.out HL.out.2 hk.out)
      have HK := Lib.hid (rbytes_k l n k HL.out.2 hk.out)
      have ql : last + 1 = (k : Int) := row_last HA.out hk.out
      have qk : (k : Int) ≤ 10000 := row_kle HRE.out.1 HJn.out
      have HPB := Lib.hid (show Lib.byteCells (rowB l j) ++ [Value.int .u8 (cur : Int)] = Lib.byteCells (rowB l j ++ [(pkU l j n).toUInt8]) by rw [Lib.byteCells_snoc _ (pkU_256 l j n), HC.out])
      clear hki
      go_wp2_with (first
        | (at_builtin; go_loud (refine wpList_append_own _ rfl _ _ 29 rfl w1.heap.size 5 i0 (.int .u8 0) 1 1 Tryd.underlying29 hi hz0 hz1 hz2 rfl (by decide) _ j (Lib.byteCells (rowB l j)) rfl (HO.out.alloc _) ⟨wr.heap.size, 0, none⟩ 1 1 [.int .u8 (cur : Int)] rfl rfl ?c1 ?c2 ?c3 ?c4 ?c5 ?_; (case c1 => exact cell_one_new _ _ _); (case c2 => intro u hu; simp at hu; subst hu; rfl); (case c3 => have := HJn.out; unfold maxLen; omega); (case c4 => have := HJn.out; omega); (case c5 => exact Nat.le_trans HB.out.size (below_alloc (Below.refl wr.heap.size wr) _).size); intro v' w2 hown' hgrow _; have HB1 := Lib.hid (Below.grown (HB.out.alloc HB.out.size _) hgrow (Nat.le_trans HB.out.size (below_alloc (Below.refl wr.heap.size wr) _).size) (fun k hk => (HO.out.lt k hk).1)); rw [HPB.out] at hown'; obtain ⟨g1, cap1, rfl⟩ := row_form hown'; obtain ⟨hc1, hc2, hg1⟩ := row_caps hown' HRE.out.1; have HO1 := Lib.hid (And.intro hown' hg1); clear hown' hgrow hg1))
        | (go_at_call 82; go_loud (refine (encI_room b g _ (k : Int) w2 (row_BR H1.out.2.1 HB1.out) (row_len0 _) (row_lt H1.out.2.1 HB1.out) (Nat.lt_of_lt_of_le HBL.out (Nat.le_trans H1.out.2.2.2.2.2.1 HB1.out.size))).mono ?_; rintro e_ w4 ⟨rfl, h1, h2⟩; have H4 := Lib.hid (And.intro h1 h2); clear h1 h2))
        | (go_at_call 102; (with_reducible refine (wrU_room b g _ ((rbytes l).map Nat.toUInt8) ⟨g1, 0, none⟩ k cap1 w4 H4.out.1 (by rw [List.length_map, HK.out]) ?l1 ?l2 ?l3 ?l4 ?l5).mono ?_); (case l1 => exact row_len1 n k HL.out.1 HK.out); (case l2 => exact row_len2 n k HL.out.1 HK.out); (case l3 => exact row_ne1 HBL.out H1.out.2.2 HO1.out.2); (case l4 => exact row_ne3 H1.out.2.1 HO1.out.2); (case l5 => exact H4.out.2.at (row_at HO1.out.1 HRE.out.2) (row_glt HO1.out.1) (row_ne1 HBL.out H1.out.2.2 HO1.out.2) (row_ne3 H1.out.2.1 HO1.out.2)); rintro e_ w5 ⟨rfl, h1, h2⟩; have H5 := Lib.hid (And.intro h1 h2); clear h1 h2))
      go_ret
      exact ⟨rfl, row_done HK.out H1.out.1 H1.out.2.2 HB1.out H4.out.2 H5.out HN4.out HL.out.1⟩
end Go.Proofs.YtgdbeiadlgkedaaDoor
