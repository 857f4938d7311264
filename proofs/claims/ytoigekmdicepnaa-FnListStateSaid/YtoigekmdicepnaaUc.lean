/- Contract: a range of an ordered list that is read. -/
import Derived.Test.YtoigekmdicepnaaUb
set_option linter.unusedVariables false
set_option linter.unusedSimpArgs false
namespace Go.Proofs.Ytoigekmdicepnaa
open Go.RowKit Go.Proofs.YtoigekmdicepnaaW.PrintWords Go.Proofs.YtoigekmdicepnaaW.PrintLast Go.Proofs.YtoigekmdicepnaaW.PrintMore
open Go.Proofs.Ytoigekmdicepnaa.Ord (E2 ins isort Tx inR tx1 replay Asc Down)

/-- Entries behind transactions, those alone whose keys are in a range. -/
def foldT (lo hi : Int) (l : List E2) (trs : List Tr) : List E2 := replay (inR lo hi) l (trs.map txOf)
theorem foldT_succ (lo hi : Int) (l : List E2) (trs : List Tr) (k : Nat) (h : k < trs.length) : foldT lo hi l (trs.take (k + 1)) = tx1 (inR lo hi) (foldT lo hi l (trs.take k)) (txOf (rdTr trs k)) := by
  unfold foldT; rw [takeTr_succ trs k h, List.map_append]; exact Ord.replay_snoc _ _ _ _
theorem tx1_len (p : Int → Bool) (l : List E2) (t : Tx) : (tx1 p l t).length ≤ l.length + 1 := by
  cases t with
  | app a v => unfold tx1; dsimp only; split <;> simp
  | clr a b => unfold tx1; dsimp only; exact Nat.le_succ_of_le (List.length_filter_le _ _)
theorem replay_len (p : Int → Bool) : ∀ (ts : List Tx) (l : List E2), (replay p l ts).length ≤ l.length + ts.length
  | [], l => Nat.le_refl _
  | t :: ts, l => by
    have h := replay_len p ts (tx1 p l t)
    have h2 := tx1_len p l t
    have e : replay p l (t :: ts) = replay p (tx1 p l t) ts := rfl
    rw [e, List.length_cons]; omega
theorem foldT_len (lo hi : Int) (l : List E2) (trs : List Tr) : (foldT lo hi l trs).length ≤ l.length + trs.length := by
  have h := replay_len (inR lo hi) (trs.map txOf) l
  rw [List.length_map] at h; exact h
def inE (lo hi : Int) (x : E2) : Bool := inR lo hi x.1
def outE (lo hi : Int) (x : E2) : Bool := !(inR lo hi x.1)
theorem inR_t {a b x : Int} (h1 : a ≤ x) (h2 : x < b) : inR a b x = true := by unfold inR; rw [decide_eq_true h1, decide_eq_true h2]; rfl
theorem inR_f1 {a b x : Int} (h1 : ¬ a ≤ x) : inR a b x = false := by unfold inR; rw [decide_eq_false h1]; rfl
theorem inR_f2 {a b x : Int} (h1 : a ≤ x) (h2 : ¬ x < b) : inR a b x = false := by unfold inR; rw [decide_eq_true h1, decide_eq_false h2]; rfl
theorem filt_succ {p : E2 → Bool} (l : List E2) (k : Nat) (h : k < l.length) : (l.take (k + 1)).filter p = if p (rdE l k) then (l.take k).filter p ++ [rdE l k] else (l.take k).filter p := by
  rw [takeE_succ l k h, List.filter_append]
  split <;> rename_i c
  · rw [List.filter_cons_of_pos c]; rfl
  · rw [List.filter_cons_of_neg c]; simp
theorem ta131 (a b : Int) : ∀ W : World, (Instr.typeAssert (.iface 131 (.agg #[.int .i64 a, .iface 2 (.int .i64 b)])) 20 131 false).run Try.prog W = .ok (.agg #[.int .i64 a, .iface 2 (.int .i64 b)]) W := fun _ => by kernel_rfl
theorem ta190 (a b : Int) : ∀ W : World, (Instr.typeAssert (.iface 190 (.agg #[.int .i64 a, .int .i64 b])) 20 190 false).run Try.prog W = .ok (.agg #[.int .i64 a, .int .i64 b]) W := fun _ => by kernel_rfl
theorem swap_eq (p q r : List E2) (x y : E2) (j : Nat) (h : p.length = j) : ((((p ++ [y]) ++ x :: q) ++ r).set (j + 1) y).set j x = (p ++ x :: y :: q) ++ r := by
  subst h
  rw [show ((p ++ [y]) ++ x :: q) ++ r = p ++ (y :: x :: (q ++ r)) by simp, List.set_append_right _ _ (by omega), show p.length + 1 - p.length = 1 by omega]
  rw [List.set_append_right _ _ (by omega), Nat.sub_self]; simp
theorem swap_lo (p q r : List E2) (x y : E2) (j : Nat) (h : p.length = j) : rdE (((p ++ [y]) ++ x :: q) ++ r) j = y := by
  subst h
  rw [show ((p ++ [y]) ++ x :: q) ++ r = p ++ (y :: x :: (q ++ r)) by simp]; simp [rdE, List.getD_eq_getElem?_getD]
theorem swap_hi (p q r : List E2) (x y : E2) (j : Nat) (h : p.length = j) : rdE (((p ++ [y]) ++ x :: q) ++ r) (j + 1) = x := by
  subst h
  rw [show ((p ++ [y]) ++ x :: q) ++ r = p ++ (y :: x :: (q ++ r)) by simp]; simp [rdE, List.getD_eq_getElem?_getD]
def rr (lo hi : Int) (es : List E2) (trs : List Tr) : List E2 := isort (foldT lo hi (es.filter (inE lo hi)) trs)
def readRange_any.T40 : Bool × List (List Nat × List Nat) := (true, [([], []), ([], []), ([], []), ([], []), ([3], [3]), ([], []), ([], []), ([6], [6]), ([5, 7], [5, 7]), ([8], [8]), ([], []), ([], []), ([10, 11], [10, 11]), ([12], [12]), ([0, 1, 0, 1, 5, 6, 7, 8, 9, 13], [0, 1]), ([14, 9, 0, 1, 5, 6, 7, 8, 9, 13], [9, 14]), ([2, 4, 0, 1, 2, 3, 4, 5, 6, 7, 8, 9, 10, 11, 12, 13, 14, 15], [2, 4]), ([16, 13, 15, 0, 1, 2, 3, 4, 5, 6, 7, 8, 9, 10, 11, 12, 13, 14, 15], [13, 16])])
def readRange_any.B40 : List Nat := [0, 0, 0, 0, 8, 0, 0, 64, 224, 480, 0, 0, 3072, 7168, 16355, 32739, 65535, 131071]
theorem readRange_any.tab40 : rtab .any (opsOf Try.f67 40) = readRange_any.T40 := by kernel_rfl
theorem readRange_any.bits40 : waitsOk readRange_any.T40.2 readRange_any.B40 = true := by kernel_rfl
def readRange_any.T45 : Bool × List (List Nat × List Nat) := (true, [([], []), ([], []), ([], []), ([2], [2]), ([], []), ([4], [4]), ([5], [5]), ([3, 6], [3, 6]), ([0, 1, 0, 1, 2, 3, 4, 5, 6, 7], [0, 1]), ([8, 7, 0, 1, 2, 3, 4, 5, 6, 7], [7, 8])])
def readRange_any.B45 : List Nat := [0, 0, 0, 4, 0, 16, 48, 124, 255, 511]
theorem readRange_any.tab45 : rtab .any (opsOf Try.f67 45) = readRange_any.T45 := by kernel_rfl
theorem readRange_any.bits45 : waitsOk readRange_any.T45.2 readRange_any.B45 = true := by kernel_rfl
set_option maxRecDepth 100000 in
set_option maxHeartbeats 8000000 in
theorem readRange_any (sb g base : Nat) (lo hi : Int) (v1 b1 k1 m1 : Value) (Al : Option Addr) (cl : Nat) (es : List E2) (trs : List Tr) (k : ByteArray) (w : World) (hs : w.heap[sb]? = some (.cells #[.string k] 132 (0, 0))) (h : WV w g base ⟨v1, b1, k1, m1, .slice Al es.length cl⟩ trs) (hb : Kd.C kAv w Al es.length (enA es)) (ht : ∀ j, j < trs.length → TrL (rdTr trs j)) (hl : trs.length ≤ 1000000) (hl2 : es.length ≤ 1000000) :
    Calls Try.prog 67 #[.pointer (some ⟨sb, 0, none⟩), .iface 94 (.pointer (some ⟨g, 0, none⟩)), .int .i64 lo, .int .i64 hi] w fun e w' => ∃ A c, e = .returned (.tuple #[.slice A (rr lo hi es trs).length c, .bool (decide (0 < (rr lo hi es trs).length)), .nilIface]) ∧ kOl.C w' A (rr lo hi es trs).length (rr lo hi es trs) ∧ (rr lo hi es trs).length ≤ c ∧ Below w.heap.size w w' := by
  have hmf : ∀ (fn : Fn) (first cap : Array Value) (w : World), (Instr.makeFunc fn first cap).run Try.prog w = .ok (.func fn first cap) w := fun _ _ _ _ => rfl
  have hna := na_ReadOrderedListState g
  have HS := Aside0.mk (blk_drew hs)
  have K0 := (blk_cell (blk_drew hs) 0).trans (rfl : _ = some (Value.string k))
  have HW := Aside0.mk (h.below (below_drew (Below.refl w.heap.size w)))
  have HB := Aside0.mk (below_drew (Below.refl w.heap.size w))
  have HL := Aside0.mk hl
  have HL2 := Aside0.mk hl2
  have HC0 := Aside0.mk hb
  have HT := Aside0.mk ht
  obtain ⟨out, hout⟩ : ∃ out, rr lo hi es trs = out := ⟨_, rfl⟩
  rw [hout]
  have HOUT := Aside0.mk hout
  clear h hl hs hb ht hl2 hout
  go_enter Try.func67, Try.ntmps67
  go_wp2_with fail
  go_region_held3 (fun z => z.cell? ⟨sb, 0, none⟩ = some (.string k)) (first | exact K | exact K0 | assumption)
    ((go_at_call 155; refine (rd155_any g base _ trs k _ HW.out).mono ?_; rintro e w2 ⟨A, c, rfl, hC, hc, hb⟩; have HC := Aside0.mk (Kd.C_below hC hb); have HB2 := Aside0.mk (below_then HB.out HB.out.size hb); have K := (blk_cell (blk_below HS.out hb) 0).trans (rfl : _ = some (Value.string k)); clear hC hc hb))
  go_wp2_with fail
  have HR := Aside0.mk (Kd.R_nil kEn 131 w2 w2.heap.size (fun _ => True))
  have HC0 := Aside0.mk (Kd.C_below HC0.out HB2.out)
  have HBB := Aside0.mk (Below.refl w2.heap.size w2)
  clear K K0 HS HW
  go_loopg [14, 50] es.length (fun kq v14 v50 w' => ∃ i : Nat, i ≤ es.length ∧ Aside0 (kq = es.length - i) ∧ v50 = .int .i64 i ∧ Aside0 (kEn.R 131 w' w2.heap.size (fun _ => True) v14 ((es.take i).filter (inE lo hi))) ∧ Aside0 (Below w2.heap.size w2 w'))
  case atStart => exact ⟨0, Nat.zero_le _, ⟨by simp⟩, rfl, by rw [List.take_zero]; exact HR, HBB⟩
  case round =>
    clear HR HBB
    obtain ⟨i, hi_, hq, rfl, HR, HBW⟩ := hrel
    have q1 : (es.length : Int) ≤ 1000000 := by have := HL2.out; omega
    by_cases hlt : i < es.length
    · obtain ⟨ad, ea, x0⟩ := atEn HC0.out i hlt
      subst ea
      replace x0 := (HBW.out.cell (World.block_lt_of_cell? w2 _ x0)).trans x0
      have HTS := Aside0.mk (filt_succ (p := inE lo hi) es i hlt)
      generalize rdE es i = x at x0 HTS
      obtain ⟨ek, ev⟩ := x
      simp only at x0
      have hta := ta131 ek ev
      have HLN := Aside0.mk (show (((es.take i).filter (inE lo hi)).length + 1) * 24 ≤ 140737488355328 by have h1 := List.length_filter_le (inE lo hi) (es.take i); have := HL2.out; rw [List.length_take] at h1; omega)
      have HR := Aside0.mk (Kd.R_below HR.out (below_alloc (Below.refl wr.heap.size wr) (.cells #[.int .i64 ek, .iface 2 (.int .i64 ev)] 131)))
      have HBW := Aside0.mk (HBW.out.alloc HBW.out.size (.cells #[.int .i64 ek, .iface 2 (.int .i64 ev)] 131))
      by_cases c1 : lo ≤ ek
      · by_cases c2 : ek < hi
        · have HTS := Aside0.mk (show (es.take (i + 1)).filter (inE lo hi) = (es.take i).filter (inE lo hi) ++ [(ek, ev)] by rw [HTS.out, if_pos (show inE lo hi (ek, ev) = true from inR_t c1 c2)])
          go_wp2_with (((with_reducible refine gate_builtin (b := .append) (xs := #[.tmp 66, .tmp 68]) rfl ?_); at_builtin; refine Kd.R_append kEn (w0 := w2) (W := wr.alloc (.cells #[.int .i64 ek, .iface 2 (.int .i64 ev)] 131)) w2.heap.size rfl (.tmp 66) (.tmp 68) 191 131 _ 24 rfl Try.underlying191 info131 rfl (by decide) (by decide) _ _ (ek, ev) [.int .i64 ek, .iface 2 (.int .i64 ev)] (fun _ => True) (fun _ => False) rfl ?aX (kEn_mkM _ _ _ (ek, ev)) (fun _ hk => hk.elim) (fun _ _ => trivial) HR.out HBW.out HBW.out.size HLN.out ?_; (case aX => first | (go_simp; done) | (go_simp; rfl)); skip; intro v1_ w5 hR1 hB1 hg1 hat1; have HR := Aside0.mk hR1; have HBW := Aside0.mk hB1; clear hR1 hB1 hg1 hat1))
          go_roundg (es.length - (i + 1))
          case measure => have := hq.out; omega
          case rel => exact ⟨i + 1, by omega, ⟨rfl⟩, by go_num, ⟨by rw [HTS.out]; exact HR.out⟩, HBW⟩
        · have HTS := Aside0.mk (show (es.take (i + 1)).filter (inE lo hi) = (es.take i).filter (inE lo hi) by rw [HTS.out, if_neg (show ¬ inE lo hi (ek, ev) = true by rw [show inE lo hi (ek, ev) = false from inR_f2 c1 c2]; decide)])
          go_wp2
          go_roundg (es.length - (i + 1))
          case measure => have := hq.out; omega
          case rel => exact ⟨i + 1, by omega, ⟨rfl⟩, by go_num, ⟨by rw [HTS.out]; exact HR.out⟩, HBW⟩
      · have HTS := Aside0.mk (show (es.take (i + 1)).filter (inE lo hi) = (es.take i).filter (inE lo hi) by rw [HTS.out, if_neg (show ¬ inE lo hi (ek, ev) = true by rw [show inE lo hi (ek, ev) = false from inR_f1 c1]; decide)])
        go_wp2
        go_roundg (es.length - (i + 1))
        case measure => have := hq.out; omega
        case rel => exact ⟨i + 1, by omega, ⟨rfl⟩, by go_num, ⟨by rw [HTS.out]; exact HR.out⟩, HBW⟩
    · have hkl : i = es.length := by omega
      subst hkl
      rw [List.take_length] at HR
      obtain ⟨E0, hE0⟩ : ∃ E0, es.filter (inE lo hi) = E0 := ⟨_, rfl⟩
      have HE0L := Aside0.mk (show E0.length ≤ 1000000 by rw [← hE0]; exact Nat.le_trans (List.length_filter_le _ _) HL2.out)
      have HOUT := Aside0.mk (show isort (foldT lo hi E0 trs) = out by rw [← HOUT.out]; unfold rr; rw [hE0])
      rw [hE0] at HR
      clear hE0 HC0 q1
      have HT0 := Aside0.mk (HT.out)
      go_wp2_with fail
      go_loopg [14, 73] trs.length (fun kq v14 v73 w' => ∃ i : Nat, i ≤ trs.length ∧ Aside0 (kq = trs.length - i) ∧ v73 = .int .i64 i ∧ Aside0 (kEn.R 131 w' w2.heap.size (fun _ => True) v14 (foldT lo hi E0 (trs.take i))) ∧ Aside0 (Below w2.heap.size w2 w'))
      case atStart => exact ⟨0, Nat.zero_le _, ⟨by simp⟩, rfl, by rw [List.take_zero]; exact HR, HBW⟩
      case round =>
        clear HR HBW
        obtain ⟨i, hi2, hq2, rfl, HR, HBW⟩ := hrel
        have q2 : (trs.length : Int) ≤ 1000000 := by have := HL.out; omega
        by_cases hlt2 : i < trs.length
        · obtain ⟨ad, ea, x0, x1, x2, x3⟩ := atTr HC.out i hlt2
          subst ea
          replace x0 := (HBW.out.cell (World.block_lt_of_cell? w2 _ x0)).trans x0
          replace x1 := (HBW.out.cell (World.block_lt_of_cell? w2 _ x1)).trans x1
          replace x2 := (HBW.out.cell (World.block_lt_of_cell? w2 _ x2)).trans x2
          replace x3 := (HBW.out.cell (World.block_lt_of_cell? w2 _ x3)).trans x3
          have HTT := HT0.out i hlt2
          have HS7 := Aside0.mk (foldT_succ lo hi E0 trs i hlt2)
          have HFL := Aside0.mk (show (foldT lo hi E0 (trs.take i)).length ≤ 2000000 by have h := foldT_len lo hi E0 (trs.take i); have := HL.out; have := HE0L.out; rw [List.length_take] at h; omega)
          generalize hx : rdTr trs i = x at x0 x1 x2 x3 HTT HS7
          clear hx
          generalize hcur : foldT lo hi E0 (trs.take i) = cur at HR HS7 HFL
          clear hcur
          rcases HTT with ⟨xk, a, n, rfl⟩ | ⟨xk, a, b, rfl⟩
          · simp only [Av.val] at x0 x1 x2 x3
            have hta := ta2 a
            have HLN := Aside0.mk (show (cur.length + 1) * 24 ≤ 140737488355328 by have := HFL.out; omega)
            have HR := Aside0.mk (Kd.R_below HR.out (below_alloc (Below.refl wr.heap.size wr) (.cells #[.string xk, .int .i32 2, .iface 2 (.int .i64 a), .iface 2 (.int .i64 n)] 172)))
            have HBW := Aside0.mk (HBW.out.alloc HBW.out.size (.cells #[.string xk, .int .i32 2, .iface 2 (.int .i64 a), .iface 2 (.int .i64 n)] 172))
            by_cases c1 : lo ≤ a
            · by_cases c2 : a < hi
              · have HRS := Aside0.mk (show foldT lo hi E0 (trs.take (i + 1)) = cur ++ [(a, n)] by rw [HS7.out]; exact if_pos (inR_t c1 c2))
                go_wp2_with (((with_reducible refine gate_builtin (b := .append) (xs := #[.tmp 92, .tmp 97]) rfl ?_); at_builtin; refine Kd.R_append kEn (w0 := w2) (W := wr.alloc (.cells #[.string xk, .int .i32 2, .iface 2 (.int .i64 a), .iface 2 (.int .i64 n)] 172)) w2.heap.size rfl (.tmp 92) (.tmp 97) 191 131 _ 24 rfl Try.underlying191 info131 rfl (by decide) (by decide) _ _ (a, n) [.int .i64 a, .iface 2 (.int .i64 n)] (fun _ => True) (fun _ => False) rfl ?aX (kEn_mkM _ _ _ (a, n)) (fun _ hk => hk.elim) (fun _ _ => trivial) HR.out HBW.out HBW.out.size HLN.out ?_; (case aX => first | (go_simp; done) | (go_simp; rfl)); skip; intro v1_ w5 hR1 hB1 hg1 hat1; have HR := Aside0.mk hR1; have HBW := Aside0.mk hB1; clear hR1 hB1 hg1 hat1))
                go_roundg (trs.length - (i + 1))
                case measure => have := hq2.out; omega
                case rel => exact ⟨i + 1, by omega, ⟨rfl⟩, by go_num, ⟨by rw [HRS.out]; exact HR.out⟩, HBW⟩
              · have HRS := Aside0.mk (show foldT lo hi E0 (trs.take (i + 1)) = cur by rw [HS7.out]; exact if_neg (by rw [inR_f2 c1 c2]; decide))
                go_wp2
                go_roundg (trs.length - (i + 1))
                case measure => have := hq2.out; omega
                case rel => exact ⟨i + 1, by omega, ⟨rfl⟩, by go_num, ⟨by rw [HRS.out]; exact HR.out⟩, HBW⟩
            · have HRS := Aside0.mk (show foldT lo hi E0 (trs.take (i + 1)) = cur by rw [HS7.out]; exact if_neg (by rw [inR_f1 c1]; decide))
              go_wp2
              go_roundg (trs.length - (i + 1))
              case measure => have := hq2.out; omega
              case rel => exact ⟨i + 1, by omega, ⟨rfl⟩, by go_num, ⟨by rw [HRS.out]; exact HR.out⟩, HBW⟩
          · simp only [Av.val] at x0 x1 x2 x3
            have hta := ta190 a b
            have HRS := Aside0.mk (show foldT lo hi E0 (trs.take (i + 1)) = cur.filter (outE a b) by rw [HS7.out]; rfl)
            obtain ⟨Ac, cc, hvc, hcc, hCc⟩ := Kd.R_reads HR.out
            subst hvc
            have HBW := Aside0.mk ((HBW.out.alloc HBW.out.size (.cells #[.string xk, .int .i32 1, .iface 190 (.agg #[.int .i64 a, .int .i64 b]), .nilIface] 172)).alloc (by have := HBW.out.size; simp; omega) (.cells #[.int .i64 a, .int .i64 b] 190))
            have HCc := Aside0.mk (Kd.C_below hCc (below_alloc (below_alloc (Below.refl wr.heap.size wr) (.cells #[.string xk, .int .i32 1, .iface 190 (.agg #[.int .i64 a, .int .i64 b]), .nilIface] 172)) (.cells #[.int .i64 a, .int .i64 b] 190)))
            clear hCc hcc HR
            have qc : (cur.length : Int) ≤ 2000000 := by have := HFL.out; omega
            go_wp2
            go_quiet (fail)
            go_wp2_with fail
            have HBW := Aside0.mk (below_drewN HBW.out nq)
            have HCc := Aside0.mk (Kd.C_drewN HCc.out nq)
            generalize hW5 : (((wr.alloc (.cells #[.string xk, .int .i32 1, .iface 190 (.agg #[.int .i64 a, .int .i64 b]), .nilIface] 172)).alloc (.cells #[.int .i64 a, .int .i64 b] 190))).drewN nq = w3 at HBW HCc ⊢
            clear hW5
            have HK := Aside0.mk (Kd.R_nil kEn 131 w3 w3.heap.size (fun _ => True))
            have HBK := Aside0.mk (Below.refl w3.heap.size w3)
            go_loopg [24, 110] cur.length (fun kq v24 v110 w' => ∃ j : Nat, j ≤ cur.length ∧ Aside0 (kq = cur.length - j) ∧ v110 = .int .i64 j ∧ Aside0 (kEn.R 131 w' w3.heap.size (fun _ => True) v24 ((cur.take j).filter (outE a b))) ∧ Aside0 (Below w3.heap.size w3 w'))
            case atStart => exact ⟨0, Nat.zero_le _, ⟨by simp⟩, rfl, by rw [List.take_zero]; exact HK, HBK⟩
            case round =>
              clear HK HBK
              obtain ⟨j, hj_, hqj, rfl, HK, HBK⟩ := hrel
              by_cases hltj : j < cur.length
              · obtain ⟨ad2, ea2, y0, y1⟩ := atE HCc.out j hltj
                subst ea2
                replace y0 := (HBK.out.cell (World.block_lt_of_cell? w3 _ y0)).trans y0
                replace y1 := (HBK.out.cell (World.block_lt_of_cell? w3 _ y1)).trans y1
                have HTS := Aside0.mk (filt_succ (p := outE a b) cur j hltj)
                generalize rdE cur j = x at y0 y1 HTS
                obtain ⟨ek, ev⟩ := x
                simp only at y0 y1
                have HLN := Aside0.mk (show (((cur.take j).filter (outE a b)).length + 1) * 24 ≤ 140737488355328 by have h1 := List.length_filter_le (outE a b) (cur.take j); have := HFL.out; rw [List.length_take] at h1; omega)
                have HK := Aside0.mk (Kd.R_below HK.out (below_alloc (Below.refl wr.heap.size wr) (.cells #[.int .i64 ek, .iface 2 (.int .i64 ev)] 131)))
                have HBK := Aside0.mk (HBK.out.alloc HBK.out.size (.cells #[.int .i64 ek, .iface 2 (.int .i64 ev)] 131))
                by_cases c1 : a ≤ ek
                · by_cases c2 : ek < b
                  · have HTS := Aside0.mk (show (cur.take (j + 1)).filter (outE a b) = (cur.take j).filter (outE a b) by rw [HTS.out, if_neg (show ¬ outE a b (ek, ev) = true by unfold outE; rw [inR_t c1 c2]; decide)])
                    go_wp2
                    go_roundg (cur.length - (j + 1))
                    case measure => have := hqj.out; omega
                    case rel => exact ⟨j + 1, by omega, ⟨rfl⟩, by go_num, ⟨by rw [HTS.out]; exact HK.out⟩, HBK⟩
                  · have HTS := Aside0.mk (show (cur.take (j + 1)).filter (outE a b) = (cur.take j).filter (outE a b) ++ [(ek, ev)] by rw [HTS.out, if_pos (show outE a b (ek, ev) = true by unfold outE; rw [inR_f2 c1 c2]; decide)])
                    go_wp2_with (((with_reducible refine gate_builtin (b := .append) (xs := #[.tmp 125, .tmp 127]) rfl ?_); at_builtin; refine Kd.R_append kEn (w0 := w3) (W := wr.alloc (.cells #[.int .i64 ek, .iface 2 (.int .i64 ev)] 131)) w3.heap.size rfl (.tmp 125) (.tmp 127) 191 131 _ 24 rfl Try.underlying191 info131 rfl (by decide) (by decide) _ _ (ek, ev) [.int .i64 ek, .iface 2 (.int .i64 ev)] (fun _ => True) (fun _ => False) rfl ?aX (kEn_mkM _ _ _ (ek, ev)) (fun _ hk => hk.elim) (fun _ _ => trivial) HK.out HBK.out HBK.out.size HLN.out ?_; (case aX => first | (go_simp; done) | (go_simp; rfl)); skip; intro v1_ w5 hR1 hB1 hg1 hat1; have HK := Aside0.mk hR1; have HBK := Aside0.mk hB1; clear hR1 hB1 hg1 hat1))
                    go_roundg (cur.length - (j + 1))
                    case measure => have := hqj.out; omega
                    case rel => exact ⟨j + 1, by omega, ⟨rfl⟩, by go_num, ⟨by rw [HTS.out]; exact HK.out⟩, HBK⟩
                · have HTS := Aside0.mk (show (cur.take (j + 1)).filter (outE a b) = (cur.take j).filter (outE a b) ++ [(ek, ev)] by rw [HTS.out, if_pos (show outE a b (ek, ev) = true by unfold outE; rw [inR_f1 c1]; decide)])
                  go_wp2_with (((with_reducible refine gate_builtin (b := .append) (xs := #[.tmp 125, .tmp 127]) rfl ?_); at_builtin; refine Kd.R_append kEn (w0 := w3) (W := wr.alloc (.cells #[.int .i64 ek, .iface 2 (.int .i64 ev)] 131)) w3.heap.size rfl (.tmp 125) (.tmp 127) 191 131 _ 24 rfl Try.underlying191 info131 rfl (by decide) (by decide) _ _ (ek, ev) [.int .i64 ek, .iface 2 (.int .i64 ev)] (fun _ => True) (fun _ => False) rfl ?aX (kEn_mkM _ _ _ (ek, ev)) (fun _ hk => hk.elim) (fun _ _ => trivial) HK.out HBK.out HBK.out.size HLN.out ?_; (case aX => first | (go_simp; done) | (go_simp; rfl)); skip; intro v1_ w5 hR1 hB1 hg1 hat1; have HK := Aside0.mk hR1; have HBK := Aside0.mk hB1; clear hR1 hB1 hg1 hat1))
                  go_roundg (cur.length - (j + 1))
                  case measure => have := hqj.out; omega
                  case rel => exact ⟨j + 1, by omega, ⟨rfl⟩, by go_num, ⟨by rw [HTS.out]; exact HK.out⟩, HBK⟩
              · have hkl : j = cur.length := by omega
                subst hkl
                rw [List.take_length] at HK
                have HR := Aside0.mk (Kd.R_lower HK.out HBW.out.size)
                have HBW := Aside0.mk (below_then HBW.out HBW.out.size HBK.out)
                go_wp2
                go_roundg (trs.length - (i + 1))
                case measure => have := hq2.out; omega
                case rel => exact ⟨i + 1, by omega, ⟨rfl⟩, by go_num, ⟨by rw [HRS.out]; exact HR.out⟩, HBW⟩
        · have hkl : i = trs.length := by omega
          subst hkl
          rw [List.take_length] at HR
          generalize hE : foldT lo hi E0 trs = E at HR HOUT
          have HEL := Aside0.mk (show E.length ≤ 2000000 by have h := foldT_len lo hi E0 trs; have := HL.out; have := HE0L.out; rw [hE] at h; omega)
          clear hE q2 HT0 HT HC
          rcases Nat.eq_zero_or_pos E.length with hz0 | hz0
          · obtain rfl : E = [] := List.eq_nil_of_length_eq_zero hz0
            obtain rfl : [] = out := HOUT.out
            clear HOUT hz0
            obtain ⟨A9, c9, hv9⟩ := Kd.R_slice HR.out
            subst hv9
            go_wp2
            go_ret3
            exact ⟨none, 0, rfl, Kd.C_nil kOl _, Nat.le_refl _, below_then HB2.out HB2.out.size HBW.out⟩
          · obtain ⟨gE, c9, hv9, hgE, _, _⟩ := Kd.R_form HR.out hz0
            subst hv9
            have HG := Aside0.mk hgE
            have hz : (((E.length : Nat) : Int) == 0) = false := beq_eq_false_iff_ne.2 (by omega)
            obtain ⟨n, hn⟩ : ∃ n, E.length = n := ⟨_, rfl⟩
            rw [hn] at hz hz0 HR ⊢
            have HN := Aside0.mk hn
            have qn : (n : Int) ≤ 2000000 := by have := HEL.out; omega
            have HO1 := Aside0.mk (show E = isort (E.take 1) ++ E.drop 1 by
              cases E with
              | nil => rw [← hn] at hz0; simp at hz0
              | cons y ys => rfl)
            clear hn hgE
            go_wp2_with fail
            clear hz
            go_loopg [27] (n - 1) (fun kq v27 w' => ∃ (i : Nat) (l : List E2), 1 ≤ i ∧ i ≤ n ∧ Aside0 (kq = n - i) ∧ v27 = .int .i64 i ∧ Aside0 (kEn.R 131 w' w2.heap.size (fun _ => True) (.slice (some ⟨gE, 0, none⟩) n c9) l) ∧ Aside0 (l = isort (E.take i) ++ E.drop i) ∧ Aside0 (Below w2.heap.size w2 w'))
            case atStart => exact ⟨1, E, Nat.le_refl _, hz0, ⟨rfl⟩, rfl, HR, HO1, HBW⟩
            case round =>
              clear HR HBW
              obtain ⟨i, l, hi1, hi_, hq, rfl, HR, HLL, HBW⟩ := hrel
              have HLN := Aside0.mk (show l.length = n from (Kd.R_reads' HR.out).1.symm)
              by_cases hlt : i < n
              · have HX := Aside0.mk (dropE E i (by have := HN.out; omega))
                have HIS := Aside0.mk (Ord.isort_take (rdE_get E i (by have := HN.out; omega)))
                have HAS := Aside0.mk (Ord.isort_asc (E.take i))
                have HSL := Aside0.mk (show (isort (E.take i)).length = i by rw [Ord.isort_len, List.length_take]; have := HN.out; omega)
                generalize rdE E i = x at HX HIS
                generalize isort (E.take i) = s at HLL HIS HAS HSL
                obtain ⟨r, hr⟩ : ∃ r, E.drop (i + 1) = r := ⟨_, rfl⟩
                have HRR := Aside0.mk hr
                have HM := Aside0.mk (show l = (s ++ [x]) ++ r by rw [HLL.out, HX.out, hr]; simp)
                clear hr HX HLL
                have HD0 := Aside0.mk (show Nonempty (Down s x i (s ++ [x])) from ⟨by have h := Ord.down_start s x; rw [HSL.out] at h; exact h⟩)
                go_wp2_with fail
                go_loopg [28] i (fun kq v28 w' => ∃ (j : Nat) (m : List E2), j ≤ i ∧ Aside0 (kq = j) ∧ v28 = .int .i64 j ∧ Aside0 (kEn.R 131 w' w2.heap.size (fun _ => True) (.slice (some ⟨gE, 0, none⟩) n c9) (m ++ r)) ∧ Aside0 (Nonempty (Down s x j m)) ∧ Aside0 (Below w2.heap.size w2 w'))
                case atStart => exact ⟨i, s ++ [x], Nat.le_refl _, ⟨rfl⟩, rfl, ⟨by rw [← HM.out]; exact HR.out⟩, HD0, HBW⟩
                case round =>
                  clear HR HBW HD0 HM HLN
                  obtain ⟨j, m, hji, hqj, rfl, HR, HD, HBW⟩ := hrel
                  obtain ⟨D⟩ := HD.out
                  rcases Nat.eq_zero_or_pos j with hj0 | hj0
                  · subst hj0
                    have HE := Aside0.mk (Ord.down_end HAS.out D (.inl rfl))
                    clear D HD
                    go_wp2_with fail
                    go_quiet (fail)
                    go_wp2
                    go_roundg (n - (i + 1))
                    case measure => have := hq.out; omega
                    case rel => exact ⟨i + 1, m ++ r, by omega, by omega, ⟨rfl⟩, by go_num, ⟨Kd.R_drewN HR.out _⟩, ⟨by rw [HIS.out, HRR.out, HE.out]⟩, ⟨below_drewN HBW.out _⟩⟩
                  · obtain ⟨j', rfl⟩ : ∃ j', j = j' + 1 := ⟨j - 1, by omega⟩
                    clear HD hj0
                    obtain ⟨p, q, hl_, hj_, hs_, hq_⟩ := D
                    obtain ⟨p', y, rfl⟩ : ∃ p' y, p = p' ++ [y] := ⟨p.dropLast, p.getLast (by rintro rfl; simp at hj_), (List.dropLast_concat_getLast _).symm⟩
                    have hpl : p'.length = j' := by simpa using hj_
                    subst hl_
                    have e0 := enE HR.out j' (by omega)
                    have e1 := enE HR.out (j' + 1) (by omega)
                    rw [swap_lo p' q r x y j' hpl] at e0
                    rw [swap_hi p' q r x y j' hpl] at e1
                    obtain ⟨x0, x1, f0, f1⟩ := e0
                    obtain ⟨y0, y1, f2, f3⟩ := e1
                    have HPL := Aside0.mk hpl
                    have HJJ := Aside0.mk hj_
                    have HSS := Aside0.mk hs_
                    have HQQ := Aside0.mk hq_
                    clear hpl hj_ hs_ hq_
                    have q3 : ((j' : Int) + 1 - 1) = (j' : Int) := by omega
                    have q4 : (j' : Int) < (n : Int) := by omega
                    have q5 : (j' : Int) + 1 < (n : Int) := by omega
                    have q6 : IntKind.i64.wrap ((j' : Int) + 1 - 1) = (j' : Int) := by rw [q3]; exact IntWalk.i64_in _ (by omega)
                    have q7 : wrap64 (j' : Int) = (j' : Int) := by rw [← i64_w]; exact IntWalk.i64_in _ (by omega)
                    have q8 : (0 : Int) ≤ (j' : Int) + 1 := by omega
                    by_cases hxy : x.1 < y.1
                    · clear f0 f1 f2 f3
                      go_wp2_with fail
                      go_quiet (fail)
                      go_wp2_with fail
                      have K0 : (wr.drewN nq).drew.cell? ⟨gE, j' * 2, none⟩ = some (.int .i64 y.1) ∧ (wr.drewN nq).drew.cell? ⟨gE, j' * 2 + 1, none⟩ = some (.iface 2 (.int .i64 y.2)) ∧ (wr.drewN nq).drew.cell? ⟨gE, (j' + 1) * 2, none⟩ = some (.int .i64 x.1) ∧ (wr.drewN nq).drew.cell? ⟨gE, (j' + 1) * 2 + 1, none⟩ = some (.iface 2 (.int .i64 x.2)) := ⟨x0, x1, y0, y1⟩
                      refine start_ (n := 18) (S := fun w' => w'.cell? ⟨gE, j' * 2, none⟩ = some (.int .i64 y.1) ∧ w'.cell? ⟨gE, j' * 2 + 1, none⟩ = some (.iface 2 (.int .i64 y.2)) ∧ w'.cell? ⟨gE, (j' + 1) * 2, none⟩ = some (.int .i64 x.1) ∧ w'.cell? ⟨gE, (j' + 1) * 2 + 1, none⟩ = some (.iface 2 (.int .i64 x.2))) (ds := [15, 17]) #[false, false, false, false, false, false, false, false, false, false, false, false, false, false, false, false, false, false] (by kernel_rfl) rfl rfl K0 (fun hHeld => ?_)
                      refine with_tabW readRange_any.tab40 readRange_any.bits40 (fun HT_ HW_ => ?_)
                      have HR := Aside0.mk (Kd.R_drew (Kd.R_drewN HR.out nq))
                      have HBW := Aside0.mk (below_drew (below_drewN HBW.out nq))
                      generalize (wr.drewN nq).drew = W at HR HBW K0 hHeld ⊢
                      -- 0: t160 := move t14 : 191 
                      refine pure_ (i := 0) (N := some 160) (v := ?_) (a' := ?_) #[true, false, false, false, false, false, false, false, false, false, false, false, false, false, false, false, false, false] rfl rfl (any_of HT_.out (by kernel_rfl)) (fun _ _ _ h => h) (Or.inl ⟨by rfl, ?_⟩) ?_ ?_
                      rotate_left
                      · intro w'
                        go_simp
                        with_reducible rfl
                      rotate_left
                      · simp only [Act.put, List.setIfInBounds_toArray, List.set_cons_zero, List.set_cons_succ, i64_w, i32_w]
                        rfl
                      -- 1: t161 := move t28 : 3 
                      refine pure_ (i := 1) (N := some 161) (v := ?_) (a' := ?_) #[true, true, false, false, false, false, false, false, false, false, false, false, false, false, false, false, false, false] rfl rfl (any_of HT_.out (by kernel_rfl)) (fun _ _ _ h => h) (Or.inl ⟨by rfl, ?_⟩) ?_ ?_
                      rotate_left
                      · intro w'
                        go_simp
                        with_reducible rfl
                      rotate_left
                      · simp only [Act.put, List.setIfInBounds_toArray, List.set_cons_zero, List.set_cons_succ, i64_w, i32_w]
                        rfl
                      -- 2: t162 := move t14 : 191 
                      refine pure_ (i := 2) (N := some 162) (v := ?_) (a' := ?_) #[true, true, true, false, false, false, false, false, false, false, false, false, false, false, false, false, false, false] rfl rfl (any_of HT_.out (by kernel_rfl)) (fun _ _ _ h => h) (Or.inl ⟨by rfl, ?_⟩) ?_ ?_
                      rotate_left
                      · intro w'
                        go_simp
                        with_reducible rfl
                      rotate_left
                      · simp only [Act.put, List.setIfInBounds_toArray, List.set_cons_zero, List.set_cons_succ, i64_w, i32_w]
                        rfl
                      -- 3: t163 := move t28 : 3 
                      refine pure_ (i := 3) (N := some 163) (v := ?_) (a' := ?_) #[true, true, true, true, false, false, false, false, false, false, false, false, false, false, false, false, false, false] rfl rfl (any_of HT_.out (by kernel_rfl)) (fun _ _ _ h => h) (Or.inl ⟨by rfl, ?_⟩) ?_ ?_
                      rotate_left
                      · intro w'
                        go_simp
                        with_reducible rfl
                      rotate_left
                      · simp only [Act.put, List.setIfInBounds_toArray, List.set_cons_zero, List.set_cons_succ, i64_w, i32_w]
                        rfl
                      -- 4: t164 := binOp sub 3 t163 1:i64 3 : 3 
                      refine pure_ (i := 4) (N := some 164) (v := ?_) (a' := ?_) #[true, true, true, true, true, false, false, false, false, false, false, false, false, false, false, false, false, false] rfl rfl (any_of HT_.out (by kernel_rfl)) (fun _ _ _ h => h) (Or.inl ⟨by rfl, ?_⟩) ?_ ?_
                      rotate_left
                      · intro w'
                        go_simp
                        with_reducible rfl
                      rotate_left
                      · simp only [Act.put, List.setIfInBounds_toArray, List.set_cons_zero, List.set_cons_succ, i64_w, i32_w]
                        rfl
                      -- 5: t165 := move t14 : 191 
                      refine pure_ (i := 5) (N := some 165) (v := ?_) (a' := ?_) #[true, true, true, true, true, true, false, false, false, false, false, false, false, false, false, false, false, false] rfl rfl (any_of HT_.out (by kernel_rfl)) (fun _ _ _ h => h) (Or.inl ⟨by rfl, ?_⟩) ?_ ?_
                      rotate_left
                      · intro w'
                        go_simp
                        with_reducible rfl
                      rotate_left
                      · simp only [Act.put, List.setIfInBounds_toArray, List.set_cons_zero, List.set_cons_succ, i64_w, i32_w]
                        rfl
                      -- 6: t166 := move t28 : 3 
                      refine pure_ (i := 6) (N := some 166) (v := ?_) (a' := ?_) #[true, true, true, true, true, true, true, false, false, false, false, false, false, false, false, false, false, false] rfl rfl (any_of HT_.out (by kernel_rfl)) (fun _ _ _ h => h) (Or.inl ⟨by rfl, ?_⟩) ?_ ?_
                      rotate_left
                      · intro w'
                        go_simp
                        with_reducible rfl
                      rotate_left
                      · simp only [Act.put, List.setIfInBounds_toArray, List.set_cons_zero, List.set_cons_succ, i64_w, i32_w]
                        rfl
                      -- 7: t167 := binOp sub 3 t166 1:i64 3 : 3 
                      refine pure_ (i := 7) (N := some 167) (v := ?_) (a' := ?_) #[true, true, true, true, true, true, true, true, false, false, false, false, false, false, false, false, false, false] rfl rfl (any_of HT_.out (by kernel_rfl)) (fun _ _ _ h => h) (Or.inl ⟨by rfl, ?_⟩) ?_ ?_
                      rotate_left
                      · intro w'
                        go_simp
                        with_reducible rfl
                      rotate_left
                      · simp only [Act.put, List.setIfInBounds_toArray, List.set_cons_zero, List.set_cons_succ, i64_w, i32_w]
                        rfl
                      -- 8: t168 := indexAddr 191 t165 t167 : 0 
                      refine pure_ (i := 8) (N := some 168) (v := ?_) (a' := ?_) #[true, true, true, true, true, true, true, true, true, false, false, false, false, false, false, false, false, false] rfl rfl (any_of HT_.out (by kernel_rfl)) (fun _ _ _ h => h) (Or.inl ⟨by rfl, ?_⟩) ?_ ?_
                      rotate_left
                      · intro w'
                        go_simp
                        with_reducible rfl
                      rotate_left
                      · simp only [Act.put, List.setIfInBounds_toArray, List.set_cons_zero, List.set_cons_succ, i64_w, i32_w]
                        rfl
                      -- 10: t170 := move t14 : 191 
                      refine pure_ (i := 10) (N := some 170) (v := ?_) (a' := ?_) #[true, true, true, true, true, true, true, true, true, false, true, false, false, false, false, false, false, false] rfl rfl (any_of HT_.out (by kernel_rfl)) (fun _ _ _ h => h) (Or.inl ⟨by rfl, ?_⟩) ?_ ?_
                      rotate_left
                      · intro w'
                        go_simp
                        with_reducible rfl
                      rotate_left
                      · simp only [Act.put, List.setIfInBounds_toArray, List.set_cons_zero, List.set_cons_succ, i64_w, i32_w]
                        rfl
                      -- 11: t171 := move t28 : 3 
                      refine pure_ (i := 11) (N := some 171) (v := ?_) (a' := ?_) #[true, true, true, true, true, true, true, true, true, false, true, true, false, false, false, false, false, false] rfl rfl (any_of HT_.out (by kernel_rfl)) (fun _ _ _ h => h) (Or.inl ⟨by rfl, ?_⟩) ?_ ?_
                      rotate_left
                      · intro w'
                        go_simp
                        with_reducible rfl
                      rotate_left
                      · simp only [Act.put, List.setIfInBounds_toArray, List.set_cons_zero, List.set_cons_succ, i64_w, i32_w]
                        rfl
                      -- 12: t172 := indexAddr 191 t170 t171 : 0 
                      refine pure_ (i := 12) (N := some 172) (v := ?_) (a' := ?_) #[true, true, true, true, true, true, true, true, true, false, true, true, true, false, false, false, false, false] rfl rfl (any_of HT_.out (by kernel_rfl)) (fun _ _ _ h => h) (Or.inl ⟨by rfl, ?_⟩) ?_ ?_
                      rotate_left
                      · intro w'
                        go_simp
                        with_reducible rfl
                      rotate_left
                      · simp only [Act.put, List.setIfInBounds_toArray, List.set_cons_zero, List.set_cons_succ, i64_w, i32_w]
                        rfl
                      -- 9: t169 := load 131 t168 : 131 
                      refine take_ (i := 9) (N := some 169) (v := ?_) (a' := ?_) #[true, true, true, true, true, true, true, true, true, true, true, true, true, false, false, false, false, false] rfl rfl (take_ofW HT_.out HW_.out (by kernel_rfl)) (fun _ _ _ h => h) (Or.inl ⟨by rfl, ?_⟩) hHeld ?_ ?_
                      rotate_left
                      · rintro w' ⟨s0, s1, s2, s3⟩
                        go_simp
                        with_reducible rfl
                      rotate_left
                      · simp only [Act.put, List.setIfInBounds_toArray, List.set_cons_zero, List.set_cons_succ, i64_w, i32_w]
                        rfl
                      -- 13: t173 := load 131 t172 : 131 
                      refine take_ (i := 13) (N := some 173) (v := ?_) (a' := ?_) #[true, true, true, true, true, true, true, true, true, true, true, true, true, true, false, false, false, false] rfl rfl (take_ofW HT_.out HW_.out (by kernel_rfl)) (fun _ _ _ h => h) (Or.inl ⟨by rfl, ?_⟩) hHeld ?_ ?_
                      rotate_left
                      · rintro w' ⟨s0, s1, s2, s3⟩
                        go_simp
                        with_reducible rfl
                      rotate_left
                      · simp only [Act.put, List.setIfInBounds_toArray, List.set_cons_zero, List.set_cons_succ, i64_w, i32_w]
                        rfl
                      -- 14: t174 := indexAddr 191 t160 t161 : 0 
                      refine pure_ (i := 14) (N := some 174) (v := ?_) (a' := ?_) #[true, true, true, true, true, true, true, true, true, true, true, true, true, true, true, false, false, false] rfl rfl (any_of HT_.out (by kernel_rfl)) (fun _ _ _ h => h) (Or.inl ⟨by rfl, ?_⟩) ?_ ?_
                      rotate_left
                      · intro w'
                        go_simp
                        with_reducible rfl
                      rotate_left
                      · simp only [Act.put, List.setIfInBounds_toArray, List.set_cons_zero, List.set_cons_succ, i64_w, i32_w]
                        rfl
                      -- 15: _ := store 131 t174 t169 : 0 
                      refine last_ (i := 15) (N := none) #[true, true, true, true, true, true, true, true, true, true, true, true, true, true, true, true, false, false] rfl rfl (one_of HT_.out (by kernel_rfl)) (by decide) (fun K hK => ?_)
                      skip
                      have hE1 := enE HR.out (j' + 1) (by omega)
                      obtain ⟨z0, z1, f0, f1⟩ := hE1
                      have hs1 := setE HR.out (j' + 1) (by omega) y
                      obtain ⟨vv, f2⟩ := Go.RowKit.cell?_setCell_some (p := ⟨gE, (j' + 1) * 2, none⟩) (x := .int .i64 y.1) z1
                      refine skip_ (w1 := ((W.setCell ⟨gE, (j' + 1) * 2, none⟩ (.int .i64 y.1)).setCell ⟨gE, (j' + 1) * 2 + 1, none⟩ (.iface 2 (.int .i64 y.2)))) (by rfl) rfl (by first | (go_simp; done) | (go_simp; rfl)) ?_
                      have HR := Aside0.mk hs1.1
                      have HBW := Aside0.mk ((HBW.out.setCell (p := ⟨gE, (j' + 1) * 2, none⟩) HG.out (.int .i64 y.1)).setCell (p := ⟨gE, (j' + 1) * 2 + 1, none⟩) HG.out (.iface 2 (.int .i64 y.2)))
                      clear hs1 z0 z1 f0 f1 f2 x0 x1 y0 y1 K0 hHeld
                      generalize ((W.setCell ⟨gE, (j' + 1) * 2, none⟩ (.int .i64 y.1)).setCell ⟨gE, (j' + 1) * 2 + 1, none⟩ (.iface 2 (.int .i64 y.2))) = W1 at HR HBW ⊢
                      refine hK.out _ _ ?_
                      clear hK K
                      -- 16: t175 := indexAddr 191 t162 t164 : 0 
                      refine pure_ (i := 16) (N := some 175) (v := ?_) (a' := ?_) #[true, true, true, true, true, true, true, true, true, true, true, true, true, true, true, true, true, false] rfl rfl (any_of HT_.out (by kernel_rfl)) (fun _ _ _ h => h) (Or.inl ⟨by rfl, ?_⟩) ?_ ?_
                      rotate_left
                      · intro w'
                        go_simp
                        with_reducible rfl
                      rotate_left
                      · simp only [Act.put, List.setIfInBounds_toArray, List.set_cons_zero, List.set_cons_succ, i64_w, i32_w]
                        rfl
                      -- 17: _ := store 131 t175 t173 : 0 
                      refine last_ (i := 17) (N := none) #[true, true, true, true, true, true, true, true, true, true, true, true, true, true, true, true, true, true] rfl rfl (one_of HT_.out (by kernel_rfl)) (by decide) (fun K hK => ?_)
                      obtain ⟨z0, z1, f0, f1⟩ := enE HR.out j' (by omega)
                      obtain ⟨vv, f2⟩ := Go.RowKit.cell?_setCell_some (p := ⟨gE, j' * 2, none⟩) (x := .int .i64 x.1) z1
                      have hs1 := setE HR.out j' (by omega) x
                      rw [swap_eq p' q r x y j' HPL.out] at hs1
                      refine skip_ (w1 := (W1.setCell ⟨gE, j' * 2, none⟩ (.int .i64 x.1)).setCell ⟨gE, j' * 2 + 1, none⟩ (.iface 2 (.int .i64 x.2))) (by rfl) rfl (by first | (go_simp; done) | (go_simp; rfl)) ?_
                      have HR := Aside0.mk hs1.1
                      have HBW := Aside0.mk ((HBW.out.setCell (p := ⟨gE, j' * 2, none⟩) HG.out (.int .i64 x.1)).setCell (p := ⟨gE, j' * 2 + 1, none⟩) HG.out (.iface 2 (.int .i64 x.2)))
                      refine hK.out _ _ ?_
                      clear hK K hs1
                      refine done_ (done_of HT_.out (by kernel_rfl)) ?_
                      go_wp2
                      go_roundg j'
                      case measure => have := hqj.out; omega
                      case rel => exact ⟨j', p' ++ x :: y :: q, by omega, ⟨rfl⟩, rfl, HR, ⟨⟨Ord.down_step HAS.out HJJ.out HSS.out HQQ.out hxy⟩⟩, HBW⟩
                    · have HE := Aside0.mk (Ord.down_end HAS.out (j := j' + 1) (l := (p' ++ [y]) ++ x :: q) ⟨p' ++ [y], q, rfl, HJJ.out, HSS.out, HQQ.out⟩ (.inr ⟨y, by simp, hxy⟩))
                      go_wp2_with fail
                      go_quiet (fail)
                      go_wp2
                      go_roundg (n - (i + 1))
                      case measure => have := hq.out; omega
                      case rel => exact ⟨i + 1, _, by omega, by omega, ⟨rfl⟩, by go_num, ⟨Kd.R_drewN HR.out _⟩, ⟨by rw [HIS.out, HRR.out, HE.out]⟩, ⟨below_drewN HBW.out _⟩⟩
              · have hkl : i = n := by omega
                subst hkl
                have HLO := Aside0.mk (show l = out by
                  rw [HLL.out, ← HN.out, List.take_length, List.drop_length, List.append_nil]; exact HOUT.out)
                rw [HLO.out] at HR
                have HON := Aside0.mk (Kd.R_reads' HR.out).1
                clear HLL HLN HLO HOUT HN HO1 hlt hi1 hi_ hq
                go_wp2_with ((refine Kd.R_make kOl (w0 := wr) (W := wr) wr.heap.size 140 rfl rfl 134 (.tmp 177) (.tmp 177) rfl (i : Int) ?aX ?aY Try.underlying134 _ 16 info140 rfl (by decide) (by decide) (0, 0) (ok := fun _ => True) (okp := fun _ => False) (kOl_mkM _ _ _ (0, 0)) (fun _ h => h.elim) trivial (by omega) (by rw [Int.toNat_natCast]; omega) (Below.refl _ _) (Nat.le_refl _) ?_; (case aX => first | (go_simp; done) | (go_simp; rfl)); (case aY => first | (go_simp; done) | (go_simp; rfl)); skip; intro vO w9 hR9 hB9 hg9 hat9; rw [Int.toNat_natCast] at hR9; have HRO := Aside0.mk hR9; have HBO := Aside0.mk hB9; clear hR9 hB9 hg9 hat9))
                obtain ⟨gO, cO, hvO, hgO, _, _⟩ := Kd.R_form HRO.out (by rw [List.length_replicate]; exact hz0)
                rw [List.length_replicate] at hvO
                subst hvO
                have HGO := Aside0.mk hgO
                clear hgO
                have HRO := Aside0.mk (show kOl.R 140 w9 wr.heap.size (fun _ => True) (.slice (some ⟨gO, 0, none⟩) i cO) (out.take 0 ++ List.replicate (i - 0) (0, 0)) by rw [List.take_zero]; exact HRO.out)
                obtain ⟨w3, hw3⟩ : ∃ w3, w3 = wr := ⟨_, rfl⟩
                rw [← hw3] at HR HBW HRO HBO HGO
                clear hw3
                go_loopg [181] i (fun kq v181 w' => ∃ j : Nat, j ≤ i ∧ Aside0 (kq = i - j) ∧ v181 = .int .i64 j ∧ Aside0 (kOl.R 140 w' w3.heap.size (fun _ => True) (.slice (some ⟨gO, 0, none⟩) i cO) (out.take j ++ List.replicate (i - j) (0, 0))) ∧ Aside0 (Below w3.heap.size w3 w'))
                case atStart => exact ⟨0, Nat.zero_le _, ⟨rfl⟩, rfl, HRO, HBO⟩
                case round =>
                  clear HRO HBO
                  obtain ⟨j, hj_, hqj, rfl, HRO, HBO⟩ := hrel
                  by_cases hlt : j < i
                  · obtain ⟨y0, y1, _, _⟩ := enE HR.out j hlt
                    replace y0 := (HBO.out.cell (World.block_lt_of_cell? w3 _ y0)).trans y0
                    replace y1 := (HBO.out.cell (World.block_lt_of_cell? w3 _ y1)).trans y1
                    have HTK := Aside0.mk (takeE_succ out j (by have := HON.out; omega))
                    generalize rdE out j = x at y0 y1 HTK
                    obtain ⟨ek, ev⟩ := x
                    simp only at y0 y1
                    have hta := ta2 ev
                    have q4 : (j : Int) < (i : Int) := by omega
                    go_wp2_with fail
                    have K0 : (wr.alloc (.cells #[.int .i64 ek, .iface 2 (.int .i64 ev)] 131)).drew.cell? ⟨wr.heap.size, 0, none⟩ = some (.int .i64 ek) ∧ (wr.alloc (.cells #[.int .i64 ek, .iface 2 (.int .i64 ev)] 131)).drew.cell? ⟨wr.heap.size, 1, none⟩ = some (.iface 2 (.int .i64 ev)) := ⟨(blk_cell (heap_alloc_new wr _) 0).trans rfl, (blk_cell (heap_alloc_new wr _) 1).trans rfl⟩
                    refine start_ (n := 10) (S := fun w' => w'.cell? ⟨wr.heap.size, 0, none⟩ = some (.int .i64 ek) ∧ w'.cell? ⟨wr.heap.size, 1, none⟩ = some (.iface 2 (.int .i64 ev))) (ds := [9]) #[false, false, false, false, false, false, false, false, false, false] (by kernel_rfl) rfl rfl K0 (fun hHeld => ?_)
                    refine with_tabW readRange_any.tab45 readRange_any.bits45 (fun HT_ HW_ => ?_)
                    have HRO := Aside0.mk (Kd.R_drew (Kd.R_alloc HRO.out (.cells #[.int .i64 ek, .iface 2 (.int .i64 ev)] 131)))
                    have HBO := Aside0.mk (below_drew (HBO.out.alloc HBO.out.size (.cells #[.int .i64 ek, .iface 2 (.int .i64 ev)] 131)))
                    clear y0 y1 HR HBW
                    generalize (wr.alloc (.cells #[.int .i64 ek, .iface 2 (.int .i64 ev)] 131)).drew = W at HRO HBO K0 hHeld ⊢
                    -- 0: t186 := move t29 : 134 
                    refine pure_ (i := 0) (N := some 186) (v := ?_) (a' := ?_) #[true, false, false, false, false, false, false, false, false, false] rfl rfl (any_of HT_.out (by kernel_rfl)) (fun _ _ _ h => h) (Or.inl ⟨by rfl, ?_⟩) ?_ ?_
                    rotate_left
                    · intro w'
                      go_simp
                      with_reducible rfl
                    rotate_left
                    · simp only [Act.put, List.setIfInBounds_toArray, List.set_cons_zero, List.set_cons_succ, i64_w, i32_w]
                      rfl
                    -- 1: t187 := move t30 : 3 
                    refine pure_ (i := 1) (N := some 187) (v := ?_) (a' := ?_) #[true, true, false, false, false, false, false, false, false, false] rfl rfl (any_of HT_.out (by kernel_rfl)) (fun _ _ _ h => h) (Or.inl ⟨by rfl, ?_⟩) ?_ ?_
                    rotate_left
                    · intro w'
                      go_simp
                      with_reducible rfl
                    rotate_left
                    · simp only [Act.put, List.setIfInBounds_toArray, List.set_cons_zero, List.set_cons_succ, i64_w, i32_w]
                      rfl
                    -- 2: t188 := fieldAddr 131 t31 0 : 0 
                    refine pure_ (i := 2) (N := some 188) (v := ?_) (a' := ?_) #[true, true, true, false, false, false, false, false, false, false] rfl rfl (any_of HT_.out (by kernel_rfl)) (fun _ _ _ h => h) (Or.inl ⟨by rfl, ?_⟩) ?_ ?_
                    rotate_left
                    · intro w'
                      go_simp
                      with_reducible rfl
                    rotate_left
                    · simp only [Act.put, List.setIfInBounds_toArray, List.set_cons_zero, List.set_cons_succ, i64_w, i32_w]
                      rfl
                    -- 4: t190 := fieldAddr 131 t31 1 : 0 
                    refine pure_ (i := 4) (N := some 190) (v := ?_) (a' := ?_) #[true, true, true, false, true, false, false, false, false, false] rfl rfl (any_of HT_.out (by kernel_rfl)) (fun _ _ _ h => h) (Or.inl ⟨by rfl, ?_⟩) ?_ ?_
                    rotate_left
                    · intro w'
                      go_simp
                      with_reducible rfl
                    rotate_left
                    · simp only [Act.put, List.setIfInBounds_toArray, List.set_cons_zero, List.set_cons_succ, i64_w, i32_w]
                      rfl
                    -- 3: t189 := load 2 t188 : 2 
                    refine take_ (i := 3) (N := some 189) (v := ?_) (a' := ?_) #[true, true, true, true, true, false, false, false, false, false] rfl rfl (take_ofW HT_.out HW_.out (by kernel_rfl)) (fun _ _ _ h => h) (Or.inl ⟨by rfl, ?_⟩) hHeld ?_ ?_
                    rotate_left
                    · rintro w' ⟨s0, s1⟩
                      go_simp
                      with_reducible rfl
                    rotate_left
                    · simp only [Act.put, List.setIfInBounds_toArray, List.set_cons_zero, List.set_cons_succ, i64_w, i32_w]
                      rfl
                    -- 5: t191 := load 20 t190 : 20 
                    refine take_ (i := 5) (N := some 191) (v := ?_) (a' := ?_) #[true, true, true, true, true, true, false, false, false, false] rfl rfl (take_ofW HT_.out HW_.out (by kernel_rfl)) (fun _ _ _ h => h) (Or.inl ⟨by rfl, ?_⟩) hHeld ?_ ?_
                    rotate_left
                    · rintro w' ⟨s0, s1⟩
                      go_simp
                      with_reducible rfl
                    rotate_left
                    · simp only [Act.put, List.setIfInBounds_toArray, List.set_cons_zero, List.set_cons_succ, i64_w, i32_w]
                      rfl
                    -- 6: t192 := typeAssert t191 20 2 false : 2 
                    refine pure_ (i := 6) (N := some 192) (v := ?_) (a' := ?_) #[true, true, true, true, true, true, true, false, false, false] rfl rfl (any_of HT_.out (by kernel_rfl)) (fun _ _ _ h => h) (Or.inl ⟨by rfl, ?_⟩) ?_ ?_
                    rotate_left
                    · intro w'
                      go_simp
                      with_reducible rfl
                    rotate_left
                    · simp only [Act.put, List.setIfInBounds_toArray, List.set_cons_zero, List.set_cons_succ, i64_w, i32_w]
                      rfl
                    -- 7: t193 := build 140 [(0, t189), (1, t192)] : 140 
                    refine pure_ (i := 7) (N := some 193) (v := ?_) (a' := ?_) #[true, true, true, true, true, true, true, true, false, false] rfl rfl (any_of HT_.out (by kernel_rfl)) (fun _ _ _ h => h) (Or.inl ⟨by rfl, ?_⟩) ?_ ?_
                    rotate_left
                    · intro w'
                      go_simp
                      with_reducible rfl
                    rotate_left
                    · simp only [Act.put, List.setIfInBounds_toArray, List.set_cons_zero, List.set_cons_succ, i64_w, i32_w]
                      rfl
                    -- 8: t194 := indexAddr 134 t186 t187 : 0 
                    refine pure_ (i := 8) (N := some 194) (v := ?_) (a' := ?_) #[true, true, true, true, true, true, true, true, true, false] rfl rfl (any_of HT_.out (by kernel_rfl)) (fun _ _ _ h => h) (Or.inl ⟨by rfl, ?_⟩) ?_ ?_
                    rotate_left
                    · intro w'
                      go_simp
                      with_reducible rfl
                    rotate_left
                    · simp only [Act.put, List.setIfInBounds_toArray, List.set_cons_zero, List.set_cons_succ, i64_w, i32_w]
                      rfl
                    -- 9: _ := store 140 t194 t193 : 0 
                    refine last_ (i := 9) (N := none) #[true, true, true, true, true, true, true, true, true, true] rfl rfl (one_of HT_.out (by kernel_rfl)) (by decide) (fun K hK => ?_)
                    obtain ⟨u0, u1, z0, z1, f0, f1⟩ := olE HRO.out j hlt
                    obtain ⟨vv, f2⟩ := Go.RowKit.cell?_setCell_some (p := ⟨gO, j * 2, none⟩) (x := .int .i64 ek) z1
                    have hs1 := setO HRO.out j hlt (ek, ev)
                    refine skip_ (w1 := (W.setCell ⟨gO, j * 2, none⟩ (.int .i64 ek)).setCell ⟨gO, j * 2 + 1, none⟩ (.int .i64 ev)) (by rfl) rfl (by first | (go_simp; done) | (go_simp; rfl)) ?_
                    have HRO := Aside0.mk hs1.1
                    have HBO := Aside0.mk ((HBO.out.setCell (p := ⟨gO, j * 2, none⟩) HGO.out (.int .i64 ek)).setCell (p := ⟨gO, j * 2 + 1, none⟩) HGO.out (.int .i64 ev))
                    refine hK.out _ _ ?_
                    clear hK K hs1
                    refine done_ (done_of HT_.out (by kernel_rfl)) ?_
                    have HTK := Aside0.mk (show ((out.take j ++ List.replicate (i - j) (0, 0)).set j (ek, ev) : List E2) = out.take (j + 1) ++ List.replicate (i - (j + 1)) (0, 0) by
                      have hl1 : (out.take j).length = j := by rw [List.length_take]; have := HON.out; omega
                      rw [HTK.out, show i - j = (i - (j + 1)) + 1 by omega, List.replicate_succ, List.set_append_right _ _ (by omega), hl1, Nat.sub_self]
                      simp)
                    rw [HTK.out] at HRO
                    go_wp2
                    go_roundg (i - (j + 1))
                    case measure => have := hqj.out; omega
                    case rel => exact ⟨j + 1, by omega, ⟨rfl⟩, by go_num, HRO, HBO⟩
                  · have hkl : j = i := by omega
                    subst hkl
                    rw [show out.take j ++ List.replicate (j - j) (0, 0) = out by rw [Nat.sub_self, HON.out, List.take_length]; simp] at HRO
                    have HCO := Aside0.mk (Kd.R_reads' HRO.out)
                    have HOD := Aside0.mk (show decide (0 < out.length) = true by rw [← HON.out]; exact decide_eq_true hz0)
                    have HCO := Aside0.mk (show j ≤ cO ∧ kOl.C wr (some ⟨gO, 0, none⟩) j out by have h := HCO.out; rw [← HON.out] at h; exact h.2)
                    go_wp2
                    go_ret3
                    exact ⟨some ⟨gO, 0, none⟩, cO, by rw [HOD.out, ← HON.out]; rfl, by rw [← HON.out]; exact HCO.out.2, by rw [← HON.out]; exact HCO.out.1, below_then HB2.out HB2.out.size (below_then HBW.out HBW.out.size HBO.out)⟩
end Go.Proofs.Ytoigekmdicepnaa
