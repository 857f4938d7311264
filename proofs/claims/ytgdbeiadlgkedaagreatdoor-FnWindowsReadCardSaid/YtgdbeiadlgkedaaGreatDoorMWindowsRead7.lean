/- Contracts and plain laws, several texts in one. -/
import Derived.Test.YtgdbeiadlgkedaaGreatDoorMWindowsRead4
import Derived.Test.YtgdbeiadlgkedaaGreatDoorMWindowsRead5
import Derived.WideLaws
set_option linter.unusedVariables false
set_option linter.unusedSimpArgs false
namespace Go.Proofs.YtgdbeiadlgkedaaGreatDoor
open Go.RowKit PFnWindowOne Go.Proofs.YtgdbeiadlgkedaaGreatDoorW.PrintWords
def tmOf (l : List UInt8) : Int := wrap64 (wrap64 (Lib.beNat (l.take 8) : Nat) + -9223372036854775808)
def rdWin (l : List UInt8) : Option (S23 × Nat) :=
  if l.length < 8 then none else (vrd 0 0 (l.drop 8)).map fun p => (⟨false, nrm (wrap64 (tmOf l - wrap64 (p.1 : Nat))), tmOf l⟩, 8 + p.2)
def rdWins : Nat → List UInt8 → Option (List S23 × Nat)
  | 0, _ => some ([], 0)
  | n + 1, l => (rdWin l).bind fun p => (rdWins n (l.drop p.2)).map fun q => (p.1 :: q.1, p.2 + q.2)
theorem rdWins_ok {m : Nat} {l : List UInt8} {ys : List S23} {q : Nat} (h : rdWins (m + 1) l = some (ys, q)) : ∃ x k ys' q', rdWin l = some (x, k) ∧ rdWins m (l.drop k) = some (ys', q') ∧ ys = x :: ys' ∧ q = k + q' := by
  simp only [rdWins] at h
  obtain ⟨⟨x, k⟩, h1, h2⟩ := Option.bind_eq_some_iff.1 h
  obtain ⟨⟨ys', q'⟩, h3, h4⟩ := Option.map_eq_some_iff.1 h2
  simp only [Prod.mk.injEq] at h4
  exact ⟨x, k, ys', q', h1, h3, h4.1.symm, h4.2.symm⟩
theorem rdWins_bad {m : Nat} {l : List UInt8} (h : rdWins (m + 1) l = none) : rdWin l = none ∨ ∃ x k, rdWin l = some (x, k) ∧ rdWins m (l.drop k) = none := by
  simp only [rdWins] at h
  cases h1 : rdWin l with
  | none => exact .inl rfl
  | some p =>
    obtain ⟨x, k⟩ := p
    rw [h1] at h
    simp only [Option.bind_some, Option.map_eq_none_iff] at h
    exact .inr ⟨x, k, rfl, h⟩
theorem rdWin_some {l : List UInt8} {x : S23} {k : Nat} (h : rdWin l = some (x, k)) : 8 ≤ l.length ∧ ∃ v k', vrd 0 0 (l.drop 8) = some (v, k') ∧ x = ⟨false, nrm (wrap64 (tmOf l - wrap64 (v : Nat))), tmOf l⟩ ∧ k = 8 + k' := by
  unfold rdWin at h
  split at h
  · cases h
  · rename_i h8
    obtain ⟨⟨v, k'⟩, h1, h2⟩ := Option.map_eq_some_iff.1 h
    simp only [Prod.mk.injEq] at h2
    exact ⟨by omega, v, k', h1, h2.1.symm, h2.2.symm⟩
theorem rdWin_none {l : List UInt8} (h : rdWin l = none) : l.length < 8 ∨ (8 ≤ l.length ∧ vrd 0 0 (l.drop 8) = none) := by
  unfold rdWin at h
  split at h
  · left; assumption
  · right; exact ⟨by omega, Option.map_eq_none_iff.1 h⟩
theorem drop_ge {i n : Nat} {l : List UInt8} (h : n ≤ (l.drop i).length) (hi : i ≤ l.length) : i + n ≤ l.length := by rw [List.length_drop] at h; omega
theorem decSingle_win (B : Nat) (pe pl : Addr) (a : Option Addr) (r g : Nat) (l : List UInt8) (i : Nat) (w : World) (h : Rd r g l i w) (he : Env B pe pl w) (hBr : B ≤ r) (hB : B ≤ w.heap.size) (x : S23) (k : Nat) (hx : rdWin (l.drop i) = some (x, k)) :
    Calls Tryz.prog 160 #[.pointer a, rdI r] w fun e w' => e = .returned (.tuple #[ifv x, .nilIface]) ∧ w.grownBy w' (some r) ∧ Rd r g l (i + k) w' := by
  obtain ⟨h8, v, k', hv, rfl, rfl⟩ := rdWin_some hx
  have := decSingle_ok B pe pl a r g l i w h he hBr hB (drop_ge h8 h.le) (tmOf (l.drop i)) rfl v k' (by rw [List.drop_drop] at hv; exact hv)
  rw [Nat.add_assoc] at this
  exact this
set_option maxHeartbeats 4000000 in
set_option maxRecDepth 100000 in
theorem decSingle_few (B : Nat) (pe pl : Addr) (a : Option Addr) (r g : Nat) (l : List UInt8) (i : Nat) (w : World) (h : Rd r g l i w) (he : Env B pe pl w) (hBr : B ≤ r) (hi : ¬ i + 8 ≤ l.length) :
    Calls Tryz.prog 160 #[.pointer a, rdI r] w fun x w' => ∃ ev, x = .returned (.tuple #[.nilIface, ev]) ∧ Fell r g l w w' ev := by
  have HC := Lib.hid (decTime_bad B pe pl r g l i w h he hBr hi)
  clear h he hBr hi
  go_enter Tryz.func160, Tryz.ntmps160
  go_wp2_with (go_at_call 83; go_loud (refine HC.out.mono ?_; rintro e_ w1 ⟨ev, rfl, h1⟩; obtain ⟨a, s, rfl, h2⟩ : ∃ a s, ev = errV a ∧ Hid (w1.cell? a = some (.string s) ∧ s.data.toList ≠ []) := (by obtain ⟨a, s, e1, e2, e3⟩ := h1.2.1; exact ⟨a, s, e1, Lib.hid ⟨e2, e3⟩⟩); have H1 := Lib.hid h1; clear h1))
  go_ret2
  exact ⟨errV a, rfl, H1.out⟩
set_option maxHeartbeats 4000000 in
set_option maxRecDepth 100000 in
theorem decSingle_cut (B : Nat) (pe pl : Addr) (a : Option Addr) (r g : Nat) (l : List UInt8) (i : Nat) (w : World) (h : Rd r g l i w) (he : Env B pe pl w) (hBr : B ≤ r) (hB : B ≤ w.heap.size) (hi : i + 8 ≤ l.length) (hv : vrd 0 0 (l.drop (i + 8)) = none) :
    Calls Tryz.prog 160 #[.pointer a, rdI r] w fun x w' => ∃ ev, x = .returned (.tuple #[.nilIface, ev]) ∧ Fell r g l w w' ev := by
  have hC := decTime_ok r g l i w h hi
  obtain ⟨T, hT⟩ : ∃ T, wrap64 (wrap64 (Lib.beNat ((l.drop i).take 8) : Nat) + -9223372036854775808) = T := ⟨_, rfl⟩
  rw [hT] at hC
  have HC := Lib.hid hC
  have HV := Lib.hid hv
  have HE := Lib.hid (And.intro he (And.intro hBr hB))
  clear h he hBr hB hi hT hC hv
  go_enter Tryz.func160, Tryz.ntmps160
  go_wp2_with (first
    | (go_at_call 83; go_loud (refine HC.out.mono ?_; rintro e_ w1 ⟨rfl, hg, hr⟩; have H1 := Lib.hid (And.intro hg hr); clear hg hr))
    | (go_at_call 92; go_loud (refine (decVar_badZ B pe pl r g l (i + 8) w1 H1.out.2 (HE.out.1.below (grown_below H1.out.1 HE.out.2.2 HE.out.2.1)) HE.out.2.1 HV.out).mono ?_; rintro e_ w2 ⟨ev, rfl, h1⟩; obtain ⟨a, s, rfl, h2⟩ : ∃ a s, ev = errV a ∧ Hid (w2.cell? a = some (.string s) ∧ s.data.toList ≠ []) := (by obtain ⟨a, s, e1, e2, e3⟩ := h1.2.1; exact ⟨a, s, e1, Lib.hid ⟨e2, e3⟩⟩); have H2 := Lib.hid (show Fell r g l w w2 (errV a) from ⟨grown_trans H1.out.1 h1.1, h1.2.1, h1.2.2⟩); clear h1)))
  go_ret2
  exact ⟨errV a, rfl, H2.out⟩
theorem decSingle_none (B : Nat) (pe pl : Addr) (a : Option Addr) (r g : Nat) (l : List UInt8) (i : Nat) (w : World) (h : Rd r g l i w) (he : Env B pe pl w) (hBr : B ≤ r) (hB : B ≤ w.heap.size) (hx : rdWin (l.drop i) = none) :
    Calls Tryz.prog 160 #[.pointer a, rdI r] w fun x w' => ∃ ev, x = .returned (.tuple #[.nilIface, ev]) ∧ Fell r g l w w' ev := by
  rcases rdWin_none hx with h8 | ⟨h8, hv⟩
  · exact decSingle_few B pe pl a r g l i w h he hBr (by rw [List.length_drop] at h8; omega)
  · exact decSingle_cut B pe pl a r g l i w h he hBr hB (drop_ge h8 h.le) (by rw [List.drop_drop] at hv; exact hv)
def IfRow (gb n : Nat) (xs : List S23) (w : World) : Prop := ∃ cs : Array Value, w.heap[gb]? = some (.cells cs 88 (0, 0)) ∧ cs.size = n ∧ ∀ (j : Nat) (x : S23), xs[j]? = some x → cs[j]? = some (ifv x)
theorem IfRow.set {gb n : Nat} {xs : List S23} {w : World} (h : IfRow gb n xs w) (x : S23) (hl : xs.length < n) : IfRow gb n (xs ++ [x]) (w.setCell ⟨gb, xs.length, none⟩ (ifv x)) := by
  obtain ⟨cs, h1, h2, h3⟩ := h
  refine ⟨cs.setIfInBounds xs.length (ifv x), Lib.heap_setCell_same (i := xs.length) h1 (ifv x), by simp [h2], fun j y hj => ?_⟩
  rw [Array.getElem?_setIfInBounds]
  by_cases e : xs.length = j
  · subst e
    rw [List.getElem?_append_right (Nat.le_refl _)] at hj
    simp only [Nat.sub_self, List.getElem?_cons_zero, Option.some.injEq] at hj
    subst hj
    rw [if_pos rfl, if_pos (by omega)]
  · rw [if_neg e]
    refine h3 j y ?_
    have hlt := (List.getElem?_eq_some_iff.1 hj).1
    rw [List.length_append, List.length_singleton] at hlt
    rwa [List.getElem?_append_left (by omega)] at hj
theorem IfRow.move {gb n : Nat} {xs : List S23} {w w' : World} (h : IfRow gb n xs w) (hk : w'.heap[gb]? = w.heap[gb]?) : IfRow gb n xs w' := by
  obtain ⟨cs, h1, h2, h3⟩ := h
  exact ⟨cs, hk.trans h1, h2, h3⟩
theorem IfRow.lt {gb n : Nat} {xs : List S23} {w : World} (h : IfRow gb n xs w) : gb < w.heap.size := by obtain ⟨cs, h1, _⟩ := h; exact blk_lt h1
theorem IfRow.frozen {gb n : Nat} {xs : List S23} {w : World} (h : IfRow gb n xs w) (i : Nat) : w.frozen? ⟨gb, i, none⟩ = false := by obtain ⟨cs, h1, _⟩ := h; exact blk_frozen h1 i
theorem IfRow.cell {gb n : Nat} {xs : List S23} {w : World} (h : IfRow gb n xs w) (i : Nat) (hi : i < n) : ∃ v, w.cell? ⟨gb, i, none⟩ = some v := by
  obtain ⟨cs, h1, h2, h3⟩ := h
  exact ⟨cs[i]'(by omega), by rw [blk_cell h1]; simp [h2, hi]⟩
theorem IfRow.C {gb : Nat} {xs : List S23} {w : World} (h : IfRow gb xs.length xs w) (hl : xs.length ≤ 1000000) : Kd.C kIf w (some ⟨gb, 0, none⟩) xs.length xs := by
  obtain ⟨cs, h1, h2, h3⟩ := h
  refine ⟨rfl, by omega, fun _ => ⟨⟨gb, 0, none⟩, rfl, fun j p hj => ⟨[ifv p], rfl, rfl, fun i u hu => ?_⟩⟩⟩
  obtain ⟨rfl, rfl⟩ : i = 0 ∧ u = ifv p := by
    cases i with
    | zero => exact ⟨rfl, by simpa using hu.symm⟩
    | succ i => simp at hu
  show w.cell? (Addr.add ⟨gb, 0, none⟩ (j * 1 + 0)) = _
  rw [Nat.mul_one, Nat.add_zero, Lib.addr_add, blk_cell h1]
  have : 0 + j = j := by omega
  rw [this]
  exact h3 j p hj
def mkI (n : Nat) : Obj := .cells (madeCells #[.nilIface] (n * 1)) 88
theorem mk_ifs (n : Nat) (hn : n ≤ 1000000) : ∀ W : World, (Instr.makeSlice 107 (.int .i32 (n : Int)) (.int .i32 (n : Int))).run Tryz.prog W = .ok (.slice (some ⟨W.heap.size, 0, none⟩) n n) (W.alloc (mkI n)) := by
  intro W
  have hm : (Tryz.prog.info? 88).map (fun i => (i.zero, i.size, i.bytes)) = some (some .nilIface, 1, 16) := by kernel_rfl
  obtain ⟨i, hi, he⟩ := Option.map_eq_some_iff.1 hm
  simp only [Prod.mk.injEq] at he
  obtain ⟨hz, hs, hb⟩ := he
  have h := run_makeSlice (P := Tryz.prog) W 107 88 i _ Tryz.underlying107 hi hz .i32 .i32 (n : Int) (n : Int) (by omega) (Int.le_refl _) (by rw [hs]; simp; omega) (by rw [hb]; simp; omega) (by omega)
  rw [hs, show (Value.nilIface).cells = #[.nilIface] from rfl] at h
  simpa [mkI] using h
theorem mkI_row (w : World) (n : Nat) : IfRow w.heap.size n [] (w.alloc (mkI n)) := ⟨madeCells #[.nilIface] (n * 1), heap_alloc_new w _, by rw [size_madeCells, Nat.mul_one], fun j x h => by simp at h⟩
end Go.Proofs.YtgdbeiadlgkedaaGreatDoor
set_option linter.unusedVariables false
set_option linter.unusedSimpArgs false
namespace Go.Proofs.YtgdbeiadlgkedaaGreatDoor
open Go.RowKit PFnWindowOne Go.Proofs.YtgdbeiadlgkedaaGreatDoorW.PrintWords
theorem grown_setgeZ {r : Nat} {w w' : World} (h : w.grownBy w' (some r)) {p : Addr} (hp : w.heap.size ≤ p.block) (v : Value) : w.grownBy (w'.setCell p v) (some r) :=
  ⟨h.os, h.tape, h.output, by simpa [World.setCell] using h.size, fun i hi hr => (Below.heap_setCell _ _ _ _ (by omega)).trans (h.block i hi hr)⟩
set_option maxHeartbeats 8000000 in
set_option maxRecDepth 100000 in
theorem decAll_ok (B : Nat) (pe pl : Addr) (a : Option Addr) (r g : Nat) (l : List UInt8) (i : Nat) (w : World) (h : Rd r g l i w) (he : Env B pe pl w) (hBr : B ≤ r) (hB : B ≤ w.heap.size) (hi : i + 4 ≤ l.length) (n : Nat) (hn : wrap32 (Lib.beNat ((l.drop i).take 4) : Nat) = (n : Int)) (hn2 : n ≤ 10000) (xs : List S23) (q : Nat) (hx : rdWins n (l.drop (i + 4)) = some (xs, q)) :
    Calls Tryz.prog 159 #[.pointer a, rdI r] w fun e w' => ∃ gb, e = .returned (.tuple #[.slice (some ⟨gb, 0, none⟩) n n, .nilIface]) ∧ IfRow gb n xs w' ∧ xs.length = n ∧ w.heap.size ≤ gb ∧ w.grownBy w' (some r) ∧ Rd r g l (i + 4 + q) w' := by
  have hC := decI32_ok r g l i w h hi
  rw [hn] at hC
  have HC := Lib.hid hC
  have HX := Lib.hid hx
  have HE := Lib.hid (And.intro he (And.intro hBr hB))
  have HRG := Lib.hid (And.intro h.lt h.ltg)
  have km := mk_ifs n (by omega)
  clear h he hBr hB hi hn hx hC
  go_enter Tryz.func159, Tryz.ntmps159
  go_wp2_with (go_at_call 84; go_loud (refine HC.out.mono ?_; rintro e_ w1 ⟨rfl, hg, hr⟩; have H1 := Lib.hid (And.intro hg hr); clear hg hr))
  have HR1 := Lib.hid (mkI_row w1 n)
  have HG1 := Lib.hid (show w.grownBy (w1.alloc (mkI n)) (some r) from grown_alloc H1.out.1 _)
  have HD1 := Lib.hid (show Rd r g l (i + 4) (w1.alloc (mkI n)) from H1.out.2.alloc _)
  have HS := Lib.hid (show w.heap.size ≤ w1.heap.size from H1.out.1.size)
  clear km HC H1
  generalize w1.alloc (mkI n) = W1 at HR1 HG1 HD1 ⊢
  go_loopg [9] n (fun kq v9 w' => ∃ (k : Nat) (ys zs : List S23) (p q' : Nat), k ≤ n ∧ Aside0 (kq = n - k) ∧ v9 = .int .i32 k ∧ Hid (xs = ys ++ zs ∧ ys.length = k ∧ rdWins (n - k) (l.drop p) = some (zs, q') ∧ p + q' = i + 4 + q) ∧ Hid (IfRow w1.heap.size n ys w') ∧ Hid (Rd r g l p w') ∧ Hid (w.grownBy w' (some r)))
  case atStart => exact ⟨0, [], xs, i + 4, q, Nat.zero_le _, ⟨by simp⟩, rfl, Lib.hid ⟨rfl, rfl, HX.out, rfl⟩, HR1, HD1, HG1⟩
  case round =>
    clear HR1 HG1 HD1
    obtain ⟨k, ys, zs, p, q', hk, hq, rfl, HP, HR, HD, HG⟩ := hrel
    by_cases hlt : k < n
    · obtain ⟨m, hm⟩ : ∃ m, n - k = m + 1 := ⟨n - k - 1, by omega⟩
      have hp := HP.out.2.2.1
      rw [hm] at hp
      obtain ⟨x, kk, zs', q'', h1, h2, h3, h4⟩ := rdWins_ok hp
      have HS1 := Lib.hid (decSingle_win B pe pl a r g l p _ HD.out (HE.out.1.below (grown_below HG.out HE.out.2.2 HE.out.2.1)) HE.out.2.1 (Nat.le_trans HE.out.2.2 HG.out.size) x kk h1)
      have HN := Lib.hid (show xs = (ys ++ [x]) ++ zs' ∧ (ys ++ [x]).length = k + 1 ∧ rdWins (n - (k + 1)) (l.drop (p + kk)) = some (zs', q'') ∧ (p + kk) + q'' = i + 4 + q from by
        refine ⟨by rw [HP.out.1, h3]; simp, by rw [List.length_append, HP.out.2.1]; rfl, ?_, by have := HP.out.2.2.2; omega⟩
        rw [show n - (k + 1) = m by omega, ← List.drop_drop]; exact h2)
      obtain ⟨t_, v_, hv_⟩ := ifv_iface x
      have HV := Lib.hid hv_
      rw [hv_] at HS1
      have qi : IntKind.i32.wrap ((k : Int) + 1) = ((k + 1 : Nat) : Int) := by rw [IntKind.wrap_i32]; omega
      have qi2 : wrap32 ((k : Int) + 1) = ((k + 1 : Nat) : Int) := by unfold wrap32; omega
      clear hp h1 h2 h3 h4 hv_ hm
      go_wp2_with (go_at_call 160; go_loud (refine HS1.out.mono ?_; rintro e_ w2 ⟨rfl, hg, hd⟩; have hr2 := HR.out.move (hg.block _ HR.out.lt (by have := HRG.out.1; have := HS.out; intro e; cases e; omega)); have f0 := hr2.frozen k; obtain ⟨v0, c0⟩ := hr2.cell k hlt; have HR2 := Lib.hid hr2; have HD2 := Lib.hid hd; have HG2 := Lib.hid (grown_trans HG.out hg); clear hg hd hr2))
      go_roundg (n - (k + 1))
      case measure => have := hq.out; omega
      case rel =>
        refine ⟨k + 1, ys ++ [x], zs', p + kk, q'', by omega, ⟨rfl⟩, by first | rfl | (simp only [qi]; done) | (simp only [qi2]; done), HN, Lib.hid ?_, Lib.hid ?_, Lib.hid ?_⟩
        · have := HR2.out.set x (by rw [HP.out.2.1]; exact hlt)
          rw [HP.out.2.1, HV.out] at this
          exact this
        · exact HD2.out.set _ _ (by have := HRG.out.1; have := HS.out; show w1.heap.size ≠ r; omega) (by have := HRG.out.2; have := HS.out; show w1.heap.size ≠ g; omega)
        · exact grown_setgeZ HG2.out (by exact HS.out) _
    · have hkl : k = n := by omega
      subst hkl
      go_wp2
      go_ret2
      obtain ⟨e1, e2, e3, e4⟩ := HP.out
      rw [Nat.sub_self] at e3
      obtain ⟨rfl, rfl⟩ : zs = [] ∧ 0 = q' := by simpa [rdWins] using e3
      rw [List.append_nil] at e1
      subst e1
      refine ⟨_, rfl, HR.out, e2, HS.out, HG.out, ?_⟩
      rw [← e4]; exact HD.out
set_option maxHeartbeats 8000000 in
set_option maxRecDepth 100000 in
theorem decAll_bad (B : Nat) (pe pl : Addr) (a : Option Addr) (r g : Nat) (l : List UInt8) (i : Nat) (w : World) (h : Rd r g l i w) (he : Env B pe pl w) (hBr : B ≤ r) (hB : B ≤ w.heap.size) (hi : i + 4 ≤ l.length) (n : Nat) (hn : wrap32 (Lib.beNat ((l.drop i).take 4) : Nat) = (n : Int)) (hn2 : n ≤ 10000) (hx : rdWins n (l.drop (i + 4)) = none) :
    Calls Tryz.prog 159 #[.pointer a, rdI r] w fun e w' => ∃ ev, e = .returned (.tuple #[.slice none 0 0, ev]) ∧ Fell r g l w w' ev := by
  have hC := decI32_ok r g l i w h hi
  rw [hn] at hC
  have HC := Lib.hid hC
  have HX := Lib.hid hx
  have HE := Lib.hid (And.intro he (And.intro hBr hB))
  have HRG := Lib.hid (And.intro h.lt h.ltg)
  have km := mk_ifs n (by omega)
  clear h he hBr hB hi hn hx hC
  go_enter Tryz.func159, Tryz.ntmps159
  go_wp2_with (go_at_call 84; go_loud (refine HC.out.mono ?_; rintro e_ w1 ⟨rfl, hg, hr⟩; have H1 := Lib.hid (And.intro hg hr); clear hg hr))
  have HR1 := Lib.hid (mkI_row w1 n)
  have HG1 := Lib.hid (show w.grownBy (w1.alloc (mkI n)) (some r) from grown_alloc H1.out.1 _)
  have HD1 := Lib.hid (show Rd r g l (i + 4) (w1.alloc (mkI n)) from H1.out.2.alloc _)
  have HS := Lib.hid (show w.heap.size ≤ w1.heap.size from H1.out.1.size)
  clear km HC H1
  generalize w1.alloc (mkI n) = W1 at HR1 HG1 HD1 ⊢
  go_loopg [9] n (fun kq v9 w' => ∃ (k : Nat) (ys : List S23) (p : Nat), k ≤ n ∧ Aside0 (kq = n - k) ∧ v9 = .int .i32 k ∧ Hid (ys.length = k ∧ rdWins (n - k) (l.drop p) = none) ∧ Hid (IfRow w1.heap.size n ys w') ∧ Hid (Rd r g l p w') ∧ Hid (w.grownBy w' (some r)))
  case atStart => exact ⟨0, [], i + 4, Nat.zero_le _, ⟨by simp⟩, rfl, Lib.hid ⟨rfl, HX.out⟩, HR1, HD1, HG1⟩
  case round =>
    clear HR1 HG1 HD1
    obtain ⟨k, ys, p, hk, hq, rfl, HP, HR, HD, HG⟩ := hrel
    by_cases hlt : k < n
    · obtain ⟨m, hm⟩ : ∃ m, n - k = m + 1 := ⟨n - k - 1, by omega⟩
      have hp := HP.out.2
      rw [hm] at hp
      rcases rdWins_bad hp with h1 | ⟨x, kk, h1, h2⟩
      · have HS1 := Lib.hid (decSingle_none B pe pl a r g l p _ HD.out (HE.out.1.below (grown_below HG.out HE.out.2.2 HE.out.2.1)) HE.out.2.1 (Nat.le_trans HE.out.2.2 HG.out.size) h1)
        clear hp h1 hm
        go_wp2_with (go_at_call 160; go_loud (refine HS1.out.mono ?_; rintro e_ w2 ⟨ev, rfl, h1⟩; obtain ⟨a, s, rfl, h2⟩ : ∃ a s, ev = errV a ∧ Hid (w2.cell? a = some (.string s) ∧ s.data.toList ≠ []) := (by obtain ⟨a, s, e1, e2, e3⟩ := h1.2.1; exact ⟨a, s, e1, Lib.hid ⟨e2, e3⟩⟩); have H2 := Lib.hid (show Fell r g l w w2 (errV a) from ⟨grown_trans HG.out h1.1, h1.2.1, h1.2.2⟩); clear h1))
        go_ret2
        exact ⟨errV a, rfl, H2.out⟩
      · have HS1 := Lib.hid (decSingle_win B pe pl a r g l p _ HD.out (HE.out.1.below (grown_below HG.out HE.out.2.2 HE.out.2.1)) HE.out.2.1 (Nat.le_trans HE.out.2.2 HG.out.size) x kk h1)
        have HN := Lib.hid (show (ys ++ [x]).length = k + 1 ∧ rdWins (n - (k + 1)) (l.drop (p + kk)) = none from by
          refine ⟨by rw [List.length_append, HP.out.1]; rfl, ?_⟩
          rw [show n - (k + 1) = m by omega, ← List.drop_drop]; exact h2)
        obtain ⟨t_, v_, hv_⟩ := ifv_iface x
        have HV := Lib.hid hv_
        rw [hv_] at HS1
        have qi : IntKind.i32.wrap ((k : Int) + 1) = ((k + 1 : Nat) : Int) := by rw [IntKind.wrap_i32]; omega
        have qi2 : wrap32 ((k : Int) + 1) = ((k + 1 : Nat) : Int) := by unfold wrap32; omega
        clear hp h1 h2 hv_ hm
        go_wp2_with (go_at_call 160; go_loud (refine HS1.out.mono ?_; rintro e_ w2 ⟨rfl, hg, hd⟩; have hr2 := HR.out.move (hg.block _ HR.out.lt (by have := HRG.out.1; have := HS.out; intro e; cases e; omega)); have f0 := hr2.frozen k; obtain ⟨v0, c0⟩ := hr2.cell k hlt; have HR2 := Lib.hid hr2; have HD2 := Lib.hid hd; have HG2 := Lib.hid (grown_trans HG.out hg); clear hg hd hr2))
        go_roundg (n - (k + 1))
        case measure => have := hq.out; omega
        case rel =>
          refine ⟨k + 1, ys ++ [x], p + kk, by omega, ⟨rfl⟩, by first | rfl | (simp only [qi]; done) | (simp only [qi2]; done), HN, Lib.hid ?_, Lib.hid ?_, Lib.hid ?_⟩
          · have := HR2.out.set x (by rw [HP.out.1]; exact hlt)
            rw [HP.out.1, HV.out] at this
            exact this
          · exact HD2.out.set _ _ (by have := HRG.out.1; have := HS.out; show w1.heap.size ≠ r; omega) (by have := HRG.out.2; have := HS.out; show w1.heap.size ≠ g; omega)
          · exact grown_setgeZ HG2.out (by exact HS.out) _
    · exfalso
      have hkl : k = n := by omega
      have := HP.out.2
      rw [hkl, Nat.sub_self] at this
      simp [rdWins] at this
set_option maxHeartbeats 8000000 in
set_option maxRecDepth 100000 in
theorem decAll_few (B : Nat) (pe pl : Addr) (a : Option Addr) (r g : Nat) (l : List UInt8) (i : Nat) (w : World) (h : Rd r g l i w) (he : Env B pe pl w) (hBr : B ≤ r) (hi : ¬ i + 4 ≤ l.length) :
    Calls Tryz.prog 159 #[.pointer a, rdI r] w fun e w' => ∃ gb ev, e = .returned (.tuple #[.slice (some ⟨gb, 0, none⟩) 0 0, ev]) ∧ Fell r g l w w' ev := by
  have HC := Lib.hid (decI32_bad B pe pl r g l i w h he hBr hi)
  have km : ∀ W : World, (Instr.makeSlice 107 (.int .i32 0) (.int .i32 0)).run Tryz.prog W = .ok (.slice (some ⟨W.heap.size, 0, none⟩) 0 0) (W.alloc (mkI 0)) := fun W => mk_ifs 0 (by omega) W
  clear h he hBr hi
  go_enter Tryz.func159, Tryz.ntmps159
  go_wp2_with (go_at_call 84; go_loud (refine HC.out.mono ?_; rintro e_ w1 ⟨ev, rfl, h1⟩; obtain ⟨a, s, rfl, h2⟩ : ∃ a s, ev = errV a ∧ Hid (w1.cell? a = some (.string s) ∧ s.data.toList ≠ []) := (by obtain ⟨a, s, e1, e2, e3⟩ := h1.2.1; exact ⟨a, s, e1, Lib.hid ⟨e2, e3⟩⟩); have H1 := Lib.hid h1; clear h1))
  have HF := Lib.hid (show Fell r g l w (w1.alloc (mkI 0)) (errV a) from ⟨grown_alloc H1.out.1 _, H1.out.2.1.kept (fun k hk => Below.heap_alloc _ _ k hk), by obtain ⟨i', h⟩ := H1.out.2.2; exact ⟨i', h.alloc _⟩⟩)
  generalize w1.alloc (mkI 0) = W1 at HF ⊢
  go_loopg [9] 0 (fun kq v9 w' => v9 = .int .i32 0 ∧ Hid (Fell r g l w w' (errV a)))
  case atStart => exact ⟨rfl, HF⟩
  case round =>
    clear HF
    obtain ⟨rfl, HF⟩ := hrel
    go_wp2
    go_ret2
    exact ⟨_, errV a, rfl, HF.out⟩
end Go.Proofs.YtgdbeiadlgkedaaGreatDoor
set_option linter.unusedVariables false
set_option linter.unusedSimpArgs false
namespace Go.Proofs.YtgdbeiadlgkedaaGreatDoor
open Go.RowKit PFnWindowOne Go.Proofs.YtgdbeiadlgkedaaGreatDoorW.PrintWords
abbrev gSp : S23 := ⟨true, 0, 0⟩
theorem oneIf (w : World) : Kd.C kIf (w.alloc (.cells #[.iface 192 (.agg #[])] 88)) (some ⟨w.heap.size, 0, none⟩) [gSp].length [gSp] := by
  refine ⟨rfl, by simp, fun _ => ⟨⟨w.heap.size, 0, none⟩, rfl, fun j p hj => ⟨[ifv p], rfl, rfl, fun i u hu => ?_⟩⟩⟩
  obtain ⟨rfl, rfl⟩ : j = 0 ∧ gSp = p := by
    cases j with
    | zero => exact ⟨rfl, by simpa using hj⟩
    | succ j => simp at hj
  obtain ⟨rfl, rfl⟩ : i = 0 ∧ u = ifv gSp := by
    cases i with
    | zero => exact ⟨rfl, by simpa using hu.symm⟩
    | succ i => simp at hu
  exact (blk_cell (heap_alloc_new w _) 0).trans rfl
theorem single_any (w : World) : Calls Tryz.prog 158 #[] w fun x w' => x = .returned (.slice (some ⟨w.heap.size, 0, none⟩) 1 1) ∧ w' = w.alloc (.cells #[.iface 192 (.agg #[])] 88) := by
  go_enter Tryz.func158, Tryz.ntmps158
  go_wp2
  go_ret
  exact ⟨rfl, rfl⟩
set_option maxHeartbeats 4000000 in
set_option maxRecDepth 100000 in
theorem decGlob_ok (a : Option Addr) (r g : Nat) (l : List UInt8) (i : Nat) (w : World) (h : Rd r g l i w) (hi : i + 4 ≤ l.length) :
    Calls Tryz.prog 156 #[.pointer a, rdI r] w fun e w' => ∃ gb, e = .returned (.tuple #[.slice (some ⟨gb, 0, none⟩) 1 1, .nilIface]) ∧ Kd.C kIf w' (some ⟨gb, 0, none⟩) [gSp].length [gSp] ∧ w.grownBy w' (some r) ∧ Rd r g l (i + 4) w' := by
  have HC := Lib.hid (decI32_ok r g l i w h hi)
  clear h hi
  go_enter Tryz.func156, Tryz.ntmps156
  go_wp2_with (first
    | (go_at_call 84; go_loud (refine HC.out.mono ?_; rintro e_ w1 ⟨rfl, hg, hr⟩; have H1 := Lib.hid (And.intro hg hr); clear hg hr))
    | (go_at_call 158; go_loud (refine (single_any _).mono ?_; rintro e_ w2 ⟨rfl, hw⟩; have H2 := Lib.hid (show Kd.C kIf w2 (some ⟨w1.heap.size, 0, none⟩) [gSp].length [gSp] ∧ w.grownBy w2 (some r) ∧ Rd r g l (i + 4) w2 by rw [hw]; exact ⟨oneIf w1, grown_alloc H1.out.1 _, H1.out.2.alloc _⟩); clear hw)))
  go_ret2
  exact ⟨_, rfl, H2.out⟩
set_option maxHeartbeats 4000000 in
set_option maxRecDepth 100000 in
theorem decGlob_few (B : Nat) (pe pl : Addr) (a : Option Addr) (r g : Nat) (l : List UInt8) (i : Nat) (w : World) (h : Rd r g l i w) (he : Env B pe pl w) (hBr : B ≤ r) (hi : ¬ i + 4 ≤ l.length) :
    Calls Tryz.prog 156 #[.pointer a, rdI r] w fun e w' => ∃ gb ev, e = .returned (.tuple #[.slice (some ⟨gb, 0, none⟩) 1 1, ev]) ∧ Kd.C kIf w' (some ⟨gb, 0, none⟩) [gSp].length [gSp] ∧ Fell r g l w w' ev := by
  have HC := Lib.hid (decI32_bad B pe pl r g l i w h he hBr hi)
  clear h he hBr hi
  go_enter Tryz.func156, Tryz.ntmps156
  go_wp2_with (first
    | (go_at_call 84; go_loud (refine HC.out.mono ?_; rintro e_ w1 ⟨ev, rfl, h1⟩; obtain ⟨a, s, rfl, h2⟩ : ∃ a s, ev = errV a ∧ Hid (w1.cell? a = some (.string s) ∧ s.data.toList ≠ []) := (by obtain ⟨a, s, e1, e2, e3⟩ := h1.2.1; exact ⟨a, s, e1, Lib.hid ⟨e2, e3⟩⟩); have H1 := Lib.hid h1; clear h1))
    | (go_at_call 158; go_loud (refine (single_any _).mono ?_; rintro e_ w2 ⟨rfl, hw⟩; have H2 := Lib.hid (show Kd.C kIf w2 (some ⟨w1.heap.size, 0, none⟩) [gSp].length [gSp] ∧ Fell r g l w w2 (errV a) by rw [hw]; exact ⟨oneIf w1, grown_alloc H1.out.1 _, H1.out.2.1.kept (fun k hk => Below.heap_alloc _ _ k hk), by obtain ⟨i', h⟩ := H1.out.2.2; exact ⟨i', h.alloc _⟩⟩); clear hw)))
  go_ret2
  exact ⟨_, errV a, rfl, H2.out⟩
theorem mthF_1 (a : Nat) : ∀ W : World, (nilAhead 95 199 (.pointer (some ⟨a, 0, none⟩)) "Decode").run Tryz.prog W = .ok (some false) W := fun _ => by kernel_rfl
theorem mthF_0 (a : Nat) : ∀ W : World, (nilAhead 95 197 (.pointer (some ⟨a, 0, none⟩)) "Decode").run Tryz.prog W = .ok (some false) W := fun _ => by kernel_rfl
theorem nz_id {l : List S23} (h : ∀ x ∈ l, x.f0 = false) : l.map nz = l := by
  induction l with
  | nil => rfl
  | cons x l ih => rw [List.map_cons, ih (fun y hy => h y (List.mem_cons_of_mem _ hy))]; unfold nz; rw [h x List.mem_cons_self]; rfl
theorem rdWins_f0 : ∀ (n : Nat) (l : List UInt8) (xs : List S23) (q : Nat), rdWins n l = some (xs, q) → xs.length = n ∧ ∀ x ∈ xs, x.f0 = false
  | 0, l, xs, q, h => by simp [rdWins] at h; obtain ⟨rfl, rfl⟩ := h; simp
  | n + 1, l, xs, q, h => by
    obtain ⟨x, k, ys, q', h1, h2, rfl, rfl⟩ := rdWins_ok h
    obtain ⟨e, f⟩ := rdWins_f0 n _ ys q' h2
    obtain ⟨_, v, k', _, hx, _⟩ := rdWin_some h1
    refine ⟨by rw [List.length_cons, e], fun y hy => ?_⟩
    rcases List.mem_cons.1 hy with rfl | hy
    · rw [hx]
    · exact f y hy
set_option maxHeartbeats 8000000 in
set_option maxRecDepth 100000 in
theorem decWins_1_ok (B : Nat) (pe pl : Addr) (t : ByteArray) (w : World) (ht : t.size ≤ 4294967296) (he : Env B pe pl w) (hB : B ≤ w.heap.size) (n : Nat) (hi : 0 + 4 ≤ t.data.toList.length) (hn : wrap32 (Lib.beNat ((t.data.toList.drop 0).take 4) : Nat) = (n : Int)) (hn2 : n ≤ 10000) (xs : List S23) (q0 m : Nat) (hx : rdWins n (t.data.toList.drop (0 + 4)) = some (xs, q0)) (hm : 0 + 4 + q0 = m) :
    Calls Tryz.prog 17 #[.int .i64 1, .string t] w fun x w' => ∃ (A : Option Addr) (c : Nat), x = .returned (.tuple #[.slice A (xs).length c, .int .i64 (m : Nat), .string ⟨#[]⟩]) ∧ Kd.C k23 w' A (xs).length ((xs).map nz) ∧ (xs).length ≤ c ∧ Below w.heap.size w w' := by
  have kc := conv_bytes
  have HT := Lib.hid (And.intro ht (And.intro he hB))
  have hxl := (rdWins_f0 n _ xs q0 hx).1
  have HY := Lib.hid (fun (r : Nat) (W : World) (h : Rd r w.heap.size t.data.toList 0 W) (he : Env B pe pl W) (hBr : B ≤ r) (hB : B ≤ W.heap.size) (a : Option Addr) => decAll_ok B pe pl a r w.heap.size t.data.toList 0 W h he hBr hB hi n hn hn2 xs q0 hx)
  rw [hm] at HY
  subst hxl
  have HN := Lib.hid hn2
  have qm := mthF_1
  clear ht he hB hi hn hn2 hx hm
  go_enter Tryz.func17, Tryz.ntmps17
  go_wp2_with (first
    | (go_at_call 42; go_loud (refine (newRd_any w w.heap.size rfl t HT.out.1).mono ?_; rintro e_ w1 ⟨r, rfl, hr1, hr2, hr3⟩; have HS := Lib.hid (And.intro hr1 (And.intro hr2 hr3)); clear hr1 hr2 hr3))
    | (go_at_call 39; go_loud (refine (wcoder_1 _).mono ?_; rintro e_ w2 ⟨rfl, hw⟩; have hb : Below w1.heap.size w1 w2 := (by rw [hw]; exact (Below.refl _ _).alloc (Nat.le_refl _) _); have HC2 := Lib.hid (show w2.heap[w1.heap.size]? = some (.cells #[.string iwc, .string ⟨#[]⟩] 182 (0, 0)) by rw [hw]; exact heap_alloc_new w1 _); have HB2 := Lib.hid hb; clear hw hb))
    | (go_at_call 43; go_loud (refine (wdec_1 w1.heap.size w2 HC2.out).mono ?_; rintro e_ w3 ⟨rfl, hw⟩; have hb : Below w1.heap.size w1 w3 := (by rw [hw]; exact HB2.out.alloc HB2.out.size _); have HB3 := Lib.hid (And.intro hb (below_then HS.out.2.1 HS.out.2.1.size hb)); clear hw hb))
    | (go_at_call 159; go_loud (refine (HY.out r w3 (HS.out.1.below HB3.out.1) (HT.out.2.1.below (HB3.out.2.mono HT.out.2.2)) (Nat.le_trans HT.out.2.2 (Nat.le_of_lt HS.out.2.2)) (Nat.le_trans HT.out.2.2 HB3.out.2.size) _).mono ?_; rintro e_ w4 ⟨gb, rfl, hrow, _, _, hg, hrd⟩; have HC4 := Lib.hid (hrow.C (Nat.le_trans HN.out (by decide))); have HR4 := Lib.hid hrd; have HL4 := Lib.hid (show (xs).length * 24 ≤ 140737488351232 by have := HN.out; omega); have HB4 := Lib.hid (HB3.out.2.trans (grown_below hg HB3.out.2.size (Nat.le_of_lt HS.out.2.2))); clear hrow hg hrd))
    | (go_at_call 50; go_loud (refine (backWins_any _ _ xs w4 HC4.out (Nat.le_refl _) HL4.out).mono ?_; rintro e_ w5 ⟨v5, rfl, hR, hb⟩; obtain ⟨A5, c5, e5⟩ := Kd.R_slice hR; subst e5; have hR5 := (Kd.R_reads' hR).2; rw [List.length_map] at hR5; (try rw [List.length_map]); have HC5 := Lib.hid hR5; have HB5 := Lib.hid (below_then HB4.out HB4.out.size hb); have HR5 := Lib.hid (HR4.out.below hb); clear hb hR hR5; have qs : (t.size : Int) - ((t.data.toList.length - m : Nat) : Int) = (m : Nat) := (by have h1 := HR5.out.le; have h2 : t.data.toList.length = t.size := (by rw [Array.length_toList]; rfl); omega); have qs2 : IntKind.i64.wrap ((m : Nat) : Int) = (m : Nat) := IntWalk.i64_in _ (by have := HR5.out.le; have := HR5.out.len; omega); obtain ⟨L, hL⟩ : ∃ L, Hid (t.data.toList.length - m = L) := ⟨_, Lib.hid rfl⟩; rw [hL.out] at qs))
    | (go_at_call 44; go_loud (refine (len_any r w.heap.size t.data.toList m _ HR5.out).mono ?_; rw [hL.out]; rintro e_ w6 ⟨rfl, q, rfl⟩))
    | (go_at_call 41; go_loud (refine (word_nil _).mono ?_; rintro e_ w7 ⟨rfl, rfl⟩)))
  go_ret3
  exact ⟨A5, c5, rfl, Kd.C_drewN HC5.out.2 q, HC5.out.1, below_drewN HB5.out q⟩
set_option maxHeartbeats 8000000 in
set_option maxRecDepth 100000 in
theorem decWins_1_few (B : Nat) (pe pl : Addr) (t : ByteArray) (w : World) (ht : t.size ≤ 4294967296) (he : Env B pe pl w) (hB : B ≤ w.heap.size) (hi : ¬ 0 + 4 ≤ t.data.toList.length) :
    Calls Tryz.prog 17 #[.int .i64 1, .string t] w fun x w' => ∃ (A : Option Addr) (n c m : Nat) (s : ByteArray), x = .returned (.tuple #[.slice A n c, .int .i64 (m : Nat), .string s]) ∧ s.data.toList ≠ [] ∧ Below w.heap.size w w' := by
  have kc := conv_bytes
  have HT := Lib.hid (And.intro ht (And.intro he hB))
  have HI := Lib.hid hi
  have qm := mthF_1
  clear ht he hB hi
  go_enter Tryz.func17, Tryz.ntmps17
  go_wp2_with (first
    | (go_at_call 42; go_loud (refine (newRd_any w w.heap.size rfl t HT.out.1).mono ?_; rintro e_ w1 ⟨r, rfl, hr1, hr2, hr3⟩; have HS := Lib.hid (And.intro hr1 (And.intro hr2 hr3)); clear hr1 hr2 hr3))
    | (go_at_call 39; go_loud (refine (wcoder_1 _).mono ?_; rintro e_ w2 ⟨rfl, hw⟩; have hb : Below w1.heap.size w1 w2 := (by rw [hw]; exact (Below.refl _ _).alloc (Nat.le_refl _) _); have HC2 := Lib.hid (show w2.heap[w1.heap.size]? = some (.cells #[.string iwc, .string ⟨#[]⟩] 182 (0, 0)) by rw [hw]; exact heap_alloc_new w1 _); have HB2 := Lib.hid hb; clear hw hb))
    | (go_at_call 43; go_loud (refine (wdec_1 w1.heap.size w2 HC2.out).mono ?_; rintro e_ w3 ⟨rfl, hw⟩; have hb : Below w1.heap.size w1 w3 := (by rw [hw]; exact HB2.out.alloc HB2.out.size _); have HB3 := Lib.hid (And.intro hb (below_then HS.out.2.1 HS.out.2.1.size hb)); clear hw hb))
    | (go_at_call 159; go_loud (refine (decAll_few B pe pl _ r w.heap.size t.data.toList 0 w3 (HS.out.1.below HB3.out.1) (HT.out.2.1.below (HB3.out.2.mono HT.out.2.2)) (Nat.le_trans HT.out.2.2 (Nat.le_of_lt HS.out.2.2)) HI.out).mono ?_; rintro e_ w4 ⟨gb, ev, rfl, hf⟩; obtain ⟨ea, es, rfl, hea, hes⟩ := hf.2.1; have HEC := Lib.hid hea; have HEA := Lib.hid hes; obtain ⟨i', hrd⟩ := hf.2.2; have HR4 := Lib.hid hrd; have HC4 := Lib.hid (show Kd.C kIf w4 (some ⟨gb, 0, none⟩) ([] : List S23).length [] from ⟨rfl, by simp, fun h => by simp at h⟩); have HL4 := Lib.hid (show (([] : List S23)).length * 24 ≤ 140737488351232 by simp); have HB4 := Lib.hid (HB3.out.2.trans (grown_below hf.1 HB3.out.2.size (Nat.le_of_lt HS.out.2.2))); clear hf hea hes hrd))
    | (go_at_call 50; go_loud (refine (backWins_any _ _ ([] : List S23) w4 HC4.out (Nat.le_refl _) HL4.out).mono ?_; rintro e_ w5 ⟨v5, rfl, hR, hb⟩; obtain ⟨A5, c5, e5⟩ := Kd.R_slice hR; subst e5; have hR5 := (Kd.R_reads' hR).2; rw [List.length_map] at hR5; (try rw [List.length_map]); have HC5 := Lib.hid hR5; have HB5 := Lib.hid (below_then HB4.out HB4.out.size hb); have HR5 := Lib.hid (HR4.out.below hb); have HEW := Lib.hid (fun q => (show (w5.drewN q).cell? ea = some (.string es) from (World.cell?_of_block (a := ea) (hb.block _ (World.block_lt_of_cell? w4 ea HEC.out))).trans HEC.out)); clear hb hR hR5; have qs : (t.size : Int) - ((t.data.toList.length - i' : Nat) : Int) = (i' : Nat) := (by have h1 := HR5.out.le; have h2 : t.data.toList.length = t.size := (by rw [Array.length_toList]; rfl); omega); have qs2 : IntKind.i64.wrap ((i' : Nat) : Int) = (i' : Nat) := IntWalk.i64_in _ (by have := HR5.out.le; have := HR5.out.len; omega); obtain ⟨L, hL⟩ : ∃ L, Hid (t.data.toList.length - i' = L) := ⟨_, Lib.hid rfl⟩; rw [hL.out] at qs))
    | (go_at_call 44; go_loud (refine (len_any r w.heap.size t.data.toList i' _ HR5.out).mono ?_; rw [hL.out]; rintro e_ w6 ⟨rfl, q, rfl⟩))
    | (go_at_call 41; go_loud (refine (word_err ea es _ (HEW.out q)).mono ?_; rintro e_ w7 ⟨rfl, rfl⟩)))
  go_ret3
  exact ⟨A5, _, c5, i', es, rfl, HEA.out, below_drewN HB5.out q⟩
set_option maxHeartbeats 8000000 in
set_option maxRecDepth 100000 in
theorem decWins_1_bad (B : Nat) (pe pl : Addr) (t : ByteArray) (w : World) (ht : t.size ≤ 4294967296) (he : Env B pe pl w) (hB : B ≤ w.heap.size) (n : Nat) (hi : 0 + 4 ≤ t.data.toList.length) (hn : wrap32 (Lib.beNat ((t.data.toList.drop 0).take 4) : Nat) = (n : Int)) (hn2 : n ≤ 10000) (hx : rdWins n (t.data.toList.drop (0 + 4)) = none) :
    Calls Tryz.prog 17 #[.int .i64 1, .string t] w fun x w' => ∃ (A : Option Addr) (n c m : Nat) (s : ByteArray), x = .returned (.tuple #[.slice A n c, .int .i64 (m : Nat), .string s]) ∧ s.data.toList ≠ [] ∧ Below w.heap.size w w' := by
  have kc := conv_bytes
  have HT := Lib.hid (And.intro ht (And.intro he hB))
  have HY := Lib.hid (fun (r : Nat) (W : World) (h : Rd r w.heap.size t.data.toList 0 W) (he : Env B pe pl W) (hBr : B ≤ r) (hB : B ≤ W.heap.size) (a : Option Addr) => decAll_bad B pe pl a r w.heap.size t.data.toList 0 W h he hBr hB hi n hn hn2 hx)
  have qm := mthF_1
  clear ht he hB hi hn hn2 hx
  go_enter Tryz.func17, Tryz.ntmps17
  go_wp2_with (first
    | (go_at_call 42; go_loud (refine (newRd_any w w.heap.size rfl t HT.out.1).mono ?_; rintro e_ w1 ⟨r, rfl, hr1, hr2, hr3⟩; have HS := Lib.hid (And.intro hr1 (And.intro hr2 hr3)); clear hr1 hr2 hr3))
    | (go_at_call 39; go_loud (refine (wcoder_1 _).mono ?_; rintro e_ w2 ⟨rfl, hw⟩; have hb : Below w1.heap.size w1 w2 := (by rw [hw]; exact (Below.refl _ _).alloc (Nat.le_refl _) _); have HC2 := Lib.hid (show w2.heap[w1.heap.size]? = some (.cells #[.string iwc, .string ⟨#[]⟩] 182 (0, 0)) by rw [hw]; exact heap_alloc_new w1 _); have HB2 := Lib.hid hb; clear hw hb))
    | (go_at_call 43; go_loud (refine (wdec_1 w1.heap.size w2 HC2.out).mono ?_; rintro e_ w3 ⟨rfl, hw⟩; have hb : Below w1.heap.size w1 w3 := (by rw [hw]; exact HB2.out.alloc HB2.out.size _); have HB3 := Lib.hid (And.intro hb (below_then HS.out.2.1 HS.out.2.1.size hb)); clear hw hb))
    | (go_at_call 159; go_loud (refine (HY.out r w3 (HS.out.1.below HB3.out.1) (HT.out.2.1.below (HB3.out.2.mono HT.out.2.2)) (Nat.le_trans HT.out.2.2 (Nat.le_of_lt HS.out.2.2)) (Nat.le_trans HT.out.2.2 HB3.out.2.size) _).mono ?_; rintro e_ w4 ⟨ev, rfl, hf⟩; obtain ⟨ea, es, rfl, hea, hes⟩ := hf.2.1; have HEC := Lib.hid hea; have HEA := Lib.hid hes; obtain ⟨i', hrd⟩ := hf.2.2; have HR4 := Lib.hid hrd; have HC4 := Lib.hid (show Kd.C kIf w4 none ([] : List S23).length [] from ⟨rfl, by simp, fun h => by simp at h⟩); have HL4 := Lib.hid (show (([] : List S23)).length * 24 ≤ 140737488351232 by simp); have HB4 := Lib.hid (HB3.out.2.trans (grown_below hf.1 HB3.out.2.size (Nat.le_of_lt HS.out.2.2))); clear hf hea hes hrd))
    | (go_at_call 50; go_loud (refine (backWins_any _ _ ([] : List S23) w4 HC4.out (Nat.le_refl _) HL4.out).mono ?_; rintro e_ w5 ⟨v5, rfl, hR, hb⟩; obtain ⟨A5, c5, e5⟩ := Kd.R_slice hR; subst e5; have hR5 := (Kd.R_reads' hR).2; rw [List.length_map] at hR5; (try rw [List.length_map]); have HC5 := Lib.hid hR5; have HB5 := Lib.hid (below_then HB4.out HB4.out.size hb); have HR5 := Lib.hid (HR4.out.below hb); have HEW := Lib.hid (fun q => (show (w5.drewN q).cell? ea = some (.string es) from (World.cell?_of_block (a := ea) (hb.block _ (World.block_lt_of_cell? w4 ea HEC.out))).trans HEC.out)); clear hb hR hR5; have qs : (t.size : Int) - ((t.data.toList.length - i' : Nat) : Int) = (i' : Nat) := (by have h1 := HR5.out.le; have h2 : t.data.toList.length = t.size := (by rw [Array.length_toList]; rfl); omega); have qs2 : IntKind.i64.wrap ((i' : Nat) : Int) = (i' : Nat) := IntWalk.i64_in _ (by have := HR5.out.le; have := HR5.out.len; omega); obtain ⟨L, hL⟩ : ∃ L, Hid (t.data.toList.length - i' = L) := ⟨_, Lib.hid rfl⟩; rw [hL.out] at qs))
    | (go_at_call 44; go_loud (refine (len_any r w.heap.size t.data.toList i' _ HR5.out).mono ?_; rw [hL.out]; rintro e_ w6 ⟨rfl, q, rfl⟩))
    | (go_at_call 41; go_loud (refine (word_err ea es _ (HEW.out q)).mono ?_; rintro e_ w7 ⟨rfl, rfl⟩)))
  go_ret3
  exact ⟨A5, _, c5, i', es, rfl, HEA.out, below_drewN HB5.out q⟩
set_option maxHeartbeats 8000000 in
set_option maxRecDepth 100000 in
theorem decWins_0_ok (B : Nat) (pe pl : Addr) (t : ByteArray) (w : World) (ht : t.size ≤ 4294967296) (he : Env B pe pl w) (hB : B ≤ w.heap.size) (hi : 0 + 4 ≤ t.data.toList.length) :
    Calls Tryz.prog 17 #[.int .i64 0, .string t] w fun x w' => ∃ (A : Option Addr) (c : Nat), x = .returned (.tuple #[.slice A ([gSp]).length c, .int .i64 (4 : Nat), .string ⟨#[]⟩]) ∧ Kd.C k23 w' A ([gSp]).length (([gSp]).map nz) ∧ ([gSp]).length ≤ c ∧ Below w.heap.size w w' := by
  have kc := conv_bytes
  have HT := Lib.hid (And.intro ht (And.intro he hB))
  have HI := Lib.hid hi
  have qm := mthF_0
  clear ht he hB hi
  go_enter Tryz.func17, Tryz.ntmps17
  go_wp2_with (first
    | (go_at_call 42; go_loud (refine (newRd_any w w.heap.size rfl t HT.out.1).mono ?_; rintro e_ w1 ⟨r, rfl, hr1, hr2, hr3⟩; have HS := Lib.hid (And.intro hr1 (And.intro hr2 hr3)); clear hr1 hr2 hr3))
    | (go_at_call 39; go_loud (refine (wcoder_0 _).mono ?_; rintro e_ w2 ⟨rfl, hw⟩; have hb : Below w1.heap.size w1 w2 := (by rw [hw]; exact (Below.refl _ _).alloc (Nat.le_refl _) _); have HC2 := Lib.hid (show w2.heap[w1.heap.size]? = some (.cells #[.string gwc, .string ⟨#[]⟩] 182 (0, 0)) by rw [hw]; exact heap_alloc_new w1 _); have HB2 := Lib.hid hb; clear hw hb))
    | (go_at_call 43; go_loud (refine (wdec_0 w1.heap.size w2 HC2.out).mono ?_; rintro e_ w3 ⟨rfl, hw⟩; have hb : Below w1.heap.size w1 w3 := (by rw [hw]; exact HB2.out.alloc HB2.out.size _); have HB3 := Lib.hid (And.intro hb (below_then HS.out.2.1 HS.out.2.1.size hb)); clear hw hb))
    | (go_at_call 156; go_loud (refine (decGlob_ok _ r w.heap.size t.data.toList 0 w3 (HS.out.1.below HB3.out.1) HI.out).mono ?_; rintro e_ w4 ⟨gb, rfl, hC, hg, hrd⟩; have HC4 := Lib.hid hC; have HR4 := Lib.hid hrd; have HL4 := Lib.hid (show ([gSp]).length * 24 ≤ 140737488351232 by simp); have HB4 := Lib.hid (HB3.out.2.trans (grown_below hg HB3.out.2.size (Nat.le_of_lt HS.out.2.2))); clear hC hg hrd))
    | (go_at_call 50; go_loud (refine (backWins_any _ _ [gSp] w4 HC4.out (Nat.le_refl _) HL4.out).mono ?_; rintro e_ w5 ⟨v5, rfl, hR, hb⟩; obtain ⟨A5, c5, e5⟩ := Kd.R_slice hR; subst e5; have hR5 := (Kd.R_reads' hR).2; rw [List.length_map] at hR5; (try rw [List.length_map]); have HC5 := Lib.hid hR5; have HB5 := Lib.hid (below_then HB4.out HB4.out.size hb); have HR5 := Lib.hid (HR4.out.below hb); clear hb hR hR5; have qs : (t.size : Int) - ((t.data.toList.length - 4 : Nat) : Int) = (4 : Nat) := (by have h1 := HR5.out.le; have h2 : t.data.toList.length = t.size := (by rw [Array.length_toList]; rfl); omega); have qs2 : IntKind.i64.wrap ((4 : Nat) : Int) = (4 : Nat) := IntWalk.i64_in _ (by have := HR5.out.le; have := HR5.out.len; omega); obtain ⟨L, hL⟩ : ∃ L, Hid (t.data.toList.length - 4 = L) := ⟨_, Lib.hid rfl⟩; rw [hL.out] at qs))
    | (go_at_call 44; go_loud (refine (len_any r w.heap.size t.data.toList 4 _ HR5.out).mono ?_; rw [hL.out]; rintro e_ w6 ⟨rfl, q, rfl⟩))
    | (go_at_call 41; go_loud (refine (word_nil _).mono ?_; rintro e_ w7 ⟨rfl, rfl⟩)))
  go_ret3
  exact ⟨A5, c5, rfl, Kd.C_drewN HC5.out.2 q, HC5.out.1, below_drewN HB5.out q⟩
set_option maxHeartbeats 8000000 in
set_option maxRecDepth 100000 in
theorem decWins_0_few (B : Nat) (pe pl : Addr) (t : ByteArray) (w : World) (ht : t.size ≤ 4294967296) (he : Env B pe pl w) (hB : B ≤ w.heap.size) (hi : ¬ 0 + 4 ≤ t.data.toList.length) :
    Calls Tryz.prog 17 #[.int .i64 0, .string t] w fun x w' => ∃ (A : Option Addr) (n c m : Nat) (s : ByteArray), x = .returned (.tuple #[.slice A n c, .int .i64 (m : Nat), .string s]) ∧ s.data.toList ≠ [] ∧ Below w.heap.size w w' := by
  have kc := conv_bytes
  have HT := Lib.hid (And.intro ht (And.intro he hB))
  have HI := Lib.hid hi
  have qm := mthF_0
  clear ht he hB hi
  go_enter Tryz.func17, Tryz.ntmps17
  go_wp2_with (first
    | (go_at_call 42; go_loud (refine (newRd_any w w.heap.size rfl t HT.out.1).mono ?_; rintro e_ w1 ⟨r, rfl, hr1, hr2, hr3⟩; have HS := Lib.hid (And.intro hr1 (And.intro hr2 hr3)); clear hr1 hr2 hr3))
    | (go_at_call 39; go_loud (refine (wcoder_0 _).mono ?_; rintro e_ w2 ⟨rfl, hw⟩; have hb : Below w1.heap.size w1 w2 := (by rw [hw]; exact (Below.refl _ _).alloc (Nat.le_refl _) _); have HC2 := Lib.hid (show w2.heap[w1.heap.size]? = some (.cells #[.string gwc, .string ⟨#[]⟩] 182 (0, 0)) by rw [hw]; exact heap_alloc_new w1 _); have HB2 := Lib.hid hb; clear hw hb))
    | (go_at_call 43; go_loud (refine (wdec_0 w1.heap.size w2 HC2.out).mono ?_; rintro e_ w3 ⟨rfl, hw⟩; have hb : Below w1.heap.size w1 w3 := (by rw [hw]; exact HB2.out.alloc HB2.out.size _); have HB3 := Lib.hid (And.intro hb (below_then HS.out.2.1 HS.out.2.1.size hb)); clear hw hb))
    | (go_at_call 156; go_loud (refine (decGlob_few B pe pl _ r w.heap.size t.data.toList 0 w3 (HS.out.1.below HB3.out.1) (HT.out.2.1.below (HB3.out.2.mono HT.out.2.2)) (Nat.le_trans HT.out.2.2 (Nat.le_of_lt HS.out.2.2)) HI.out).mono ?_; rintro e_ w4 ⟨gb, ev, rfl, hC, hf⟩; obtain ⟨ea, es, rfl, hea, hes⟩ := hf.2.1; have HEC := Lib.hid hea; have HEA := Lib.hid hes; obtain ⟨i', hrd⟩ := hf.2.2; have HR4 := Lib.hid hrd; have HC4 := Lib.hid hC; have HL4 := Lib.hid (show ([gSp]).length * 24 ≤ 140737488351232 by simp); have HB4 := Lib.hid (HB3.out.2.trans (grown_below hf.1 HB3.out.2.size (Nat.le_of_lt HS.out.2.2))); clear hC hf hea hes hrd))
    | (go_at_call 50; go_loud (refine (backWins_any _ _ [gSp] w4 HC4.out (Nat.le_refl _) HL4.out).mono ?_; rintro e_ w5 ⟨v5, rfl, hR, hb⟩; obtain ⟨A5, c5, e5⟩ := Kd.R_slice hR; subst e5; have hR5 := (Kd.R_reads' hR).2; rw [List.length_map] at hR5; (try rw [List.length_map]); have HC5 := Lib.hid hR5; have HB5 := Lib.hid (below_then HB4.out HB4.out.size hb); have HR5 := Lib.hid (HR4.out.below hb); have HEW := Lib.hid (fun q => (show (w5.drewN q).cell? ea = some (.string es) from (World.cell?_of_block (a := ea) (hb.block _ (World.block_lt_of_cell? w4 ea HEC.out))).trans HEC.out)); clear hb hR hR5; have qs : (t.size : Int) - ((t.data.toList.length - i' : Nat) : Int) = (i' : Nat) := (by have h1 := HR5.out.le; have h2 : t.data.toList.length = t.size := (by rw [Array.length_toList]; rfl); omega); have qs2 : IntKind.i64.wrap ((i' : Nat) : Int) = (i' : Nat) := IntWalk.i64_in _ (by have := HR5.out.le; have := HR5.out.len; omega); obtain ⟨L, hL⟩ : ∃ L, Hid (t.data.toList.length - i' = L) := ⟨_, Lib.hid rfl⟩; rw [hL.out] at qs))
    | (go_at_call 44; go_loud (refine (len_any r w.heap.size t.data.toList i' _ HR5.out).mono ?_; rw [hL.out]; rintro e_ w6 ⟨rfl, q, rfl⟩))
    | (go_at_call 41; go_loud (refine (word_err ea es _ (HEW.out q)).mono ?_; rintro e_ w7 ⟨rfl, rfl⟩)))
  go_ret3
  exact ⟨A5, _, c5, i', es, rfl, HEA.out, below_drewN HB5.out q⟩
end Go.Proofs.YtgdbeiadlgkedaaGreatDoor
