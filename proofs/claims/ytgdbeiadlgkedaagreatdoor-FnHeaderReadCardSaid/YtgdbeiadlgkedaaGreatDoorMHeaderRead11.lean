/- Contracts and plain laws, several texts in one. -/
import Derived.Test.YtgdbeiadlgkedaaGreatDoorMHeaderRead6
import Derived.Test.YtgdbeiadlgkedaaGreatDoorMHeaderRead7
import Derived.Test.YtgdbeiadlgkedaaGreatDoorMHeaderRead10
import Derived.WideLaws
set_option linter.unusedVariables false
set_option linter.unusedSimpArgs false
namespace Go.Proofs.YtgdbeiadlgkedaaGreatDoor
open Go.RowKit PFnWindowOne Go.Proofs.YtgdbeiadlgkedaaGreatDoorW.PrintWords
def tmOf (l : List UInt8) : Int := wrap64 (wrap64 (Lib.beNat (l.take 8) : Nat) + -9223372036854775808)
def rdWin (l : List UInt8) : Option (S23 × Nat) :=
  if l.length < 8 then none else (vrd 0 0 (l.drop 8)).map fun p => (⟨false, nrm (wrap64 (tmOf l - wrap64 (p.1 : Nat))), tmOf l⟩, 8 + p.2)
def rdWins : Nat → List UInt8 → Option (List S23 × Nat)
  | 0, _ => some ([], 0)
  | n + 1, l => (rdWin l).bind fun p => (rdWins n (l.drop p.2)).map fun q => (p.1 :: q.1, p.2 + q.2)
theorem rdWins_ok {m : Nat} {l : List UInt8} {ys : List S23} {q : Nat} (h : rdWins (m + 1) l = some (ys, q)) : ∃ x k ys' q', rdWin l = some (x, k) ∧ rdWins m (l.drop k) = some (ys', q') ∧ ys = x :: ys' ∧ q = k + q' := by
  simp only [rdWins] at h
  obtain ⟨⟨x, k⟩, h1, h2⟩ := Option.bind_eq_some_iff.1 h
  obtain ⟨⟨ys', q'⟩, h3, h4⟩ := Option.map_eq_some_iff.1 h2
  simp only [Prod.mk.injEq] at h4
  exact ⟨x, k, ys', q', h1, h3, h4.1.symm, h4.2.symm⟩
theorem rdWins_bad {m : Nat} {l : List UInt8} (h : rdWins (m + 1) l = none) : rdWin l = none ∨ ∃ x k, rdWin l = some (x, k) ∧ rdWins m (l.drop k) = none := by
  simp only [rdWins] at h
  cases h1 : rdWin l with
  | none => exact .inl rfl
  | some p =>
    obtain ⟨x, k⟩ := p
    rw [h1] at h
    simp only [Option.bind_some, Option.map_eq_none_iff] at h
    exact .inr ⟨x, k, rfl, h⟩
theorem rdWin_some {l : List UInt8} {x : S23} {k : Nat} (h : rdWin l = some (x, k)) : 8 ≤ l.length ∧ ∃ v k', vrd 0 0 (l.drop 8) = some (v, k') ∧ x = ⟨false, nrm (wrap64 (tmOf l - wrap64 (v : Nat))), tmOf l⟩ ∧ k = 8 + k' := by
  unfold rdWin at h
  split at h
  · cases h
  · rename_i h8
    obtain ⟨⟨v, k'⟩, h1, h2⟩ := Option.map_eq_some_iff.1 h
    simp only [Prod.mk.injEq] at h2
    exact ⟨by omega, v, k', h1, h2.1.symm, h2.2.symm⟩
theorem rdWin_none {l : List UInt8} (h : rdWin l = none) : l.length < 8 ∨ (8 ≤ l.length ∧ vrd 0 0 (l.drop 8) = none) := by
  unfold rdWin at h
  split at h
  · left; assumption
  · right; exact ⟨by omega, Option.map_eq_none_iff.1 h⟩
theorem drop_ge {i n : Nat} {l : List UInt8} (h : n ≤ (l.drop i).length) (hi : i ≤ l.length) : i + n ≤ l.length := by rw [List.length_drop] at h; omega
theorem decSingle_win (B : Nat) (pe pl : Addr) (a : Option Addr) (r g : Nat) (l : List UInt8) (i : Nat) (w : World) (h : Rd r g l i w) (he : Env B pe pl w) (hBr : B ≤ r) (hB : B ≤ w.heap.size) (x : S23) (k : Nat) (hx : rdWin (l.drop i) = some (x, k)) :
    Calls Tryz.prog 160 #[.pointer a, rdI r] w fun e w' => e = .returned (.tuple #[ifv x, .nilIface]) ∧ w.grownBy w' (some r) ∧ Rd r g l (i + k) w' := by
  obtain ⟨h8, v, k', hv, rfl, rfl⟩ := rdWin_some hx
  have := decSingle_ok B pe pl a r g l i w h he hBr hB (drop_ge h8 h.le) (tmOf (l.drop i)) rfl v k' (by rw [List.drop_drop] at hv; exact hv)
  rw [Nat.add_assoc] at this
  exact this
set_option maxHeartbeats 4000000 in
set_option maxRecDepth 100000 in
theorem decSingle_few (B : Nat) (pe pl : Addr) (a : Option Addr) (r g : Nat) (l : List UInt8) (i : Nat) (w : World) (h : Rd r g l i w) (he : Env B pe pl w) (hBr : B ≤ r) (hi : ¬ i + 8 ≤ l.length) :
    Calls Tryz.prog 160 #[.pointer a, rdI r] w fun x w' => ∃ ev, x = .returned (.tuple #[.nilIface, ev]) ∧ Fell r g l w w' ev := by
  have HC := Lib.hid (decTime_bad B pe pl r g l i w h he hBr hi)
  clear h he hBr hi
  go_enter Tryz.func160, Tryz.ntmps160
  go_wp2_with (go_at_call 83; go_loud (refine HC.out.mono ?_; rintro e_ w1 ⟨ev, rfl, h1⟩; obtain ⟨a, s, rfl, h2⟩ : ∃ a s, ev = errV a ∧ Hid (w1.cell? a = some (.string s) ∧ s.data.toList ≠ []) := (by obtain ⟨a, s, e1, e2, e3⟩ := h1.2.1; exact ⟨a, s, e1, Lib.hid ⟨e2, e3⟩⟩); have H1 := Lib.hid h1; clear h1))
  go_ret2
  exact ⟨errV a, rfl, H1.out⟩
set_option maxHeartbeats 4000000 in
set_option maxRecDepth 100000 in
theorem decSingle_cut (B : Nat) (pe pl : Addr) (a : Option Addr) (r g : Nat) (l : List UInt8) (i : Nat) (w : World) (h : Rd r g l i w) (he : Env B pe pl w) (hBr : B ≤ r) (hB : B ≤ w.heap.size) (hi : i + 8 ≤ l.length) (hv : vrd 0 0 (l.drop (i + 8)) = none) :
    Calls Tryz.prog 160 #[.pointer a, rdI r] w fun x w' => ∃ ev, x = .returned (.tuple #[.nilIface, ev]) ∧ Fell r g l w w' ev := by
  have hC := decTime_ok r g l i w h hi
  obtain ⟨T, hT⟩ : ∃ T, wrap64 (wrap64 (Lib.beNat ((l.drop i).take 8) : Nat) + -9223372036854775808) = T := ⟨_, rfl⟩
  rw [hT] at hC
  have HC := Lib.hid hC
  have HV := Lib.hid hv
  have HE := Lib.hid (And.intro he (And.intro hBr hB))
  clear h he hBr hB hi hT hC hv
  go_enter Tryz.func160, Tryz.ntmps160
  go_wp2_with (first
    | (go_at_call 83; go_loud (refine HC.out.mono ?_; rintro e_ w1 ⟨rfl, hg, hr⟩; have H1 := Lib.hid (And.intro hg hr); clear hg hr))
    | (go_at_call 92; go_loud (refine (decVar_badZ B pe pl r g l (i + 8) w1 H1.out.2 (HE.out.1.below (grown_below H1.out.1 HE.out.2.2 HE.out.2.1)) HE.out.2.1 HV.out).mono ?_; rintro e_ w2 ⟨ev, rfl, h1⟩; obtain ⟨a, s, rfl, h2⟩ : ∃ a s, ev = errV a ∧ Hid (w2.cell? a = some (.string s) ∧ s.data.toList ≠ []) := (by obtain ⟨a, s, e1, e2, e3⟩ := h1.2.1; exact ⟨a, s, e1, Lib.hid ⟨e2, e3⟩⟩); have H2 := Lib.hid (show Fell r g l w w2 (errV a) from ⟨grown_trans H1.out.1 h1.1, h1.2.1, h1.2.2⟩); clear h1)))
  go_ret2
  exact ⟨errV a, rfl, H2.out⟩
theorem decSingle_none (B : Nat) (pe pl : Addr) (a : Option Addr) (r g : Nat) (l : List UInt8) (i : Nat) (w : World) (h : Rd r g l i w) (he : Env B pe pl w) (hBr : B ≤ r) (hB : B ≤ w.heap.size) (hx : rdWin (l.drop i) = none) :
    Calls Tryz.prog 160 #[.pointer a, rdI r] w fun x w' => ∃ ev, x = .returned (.tuple #[.nilIface, ev]) ∧ Fell r g l w w' ev := by
  rcases rdWin_none hx with h8 | ⟨h8, hv⟩
  · exact decSingle_few B pe pl a r g l i w h he hBr (by rw [List.length_drop] at h8; omega)
  · exact decSingle_cut B pe pl a r g l i w h he hBr hB (drop_ge h8 h.le) (by rw [List.drop_drop] at hv; exact hv)
def IfRow (gb n : Nat) (xs : List S23) (w : World) : Prop := ∃ cs : Array Value, w.heap[gb]? = some (.cells cs 88 (0, 0)) ∧ cs.size = n ∧ ∀ (j : Nat) (x : S23), xs[j]? = some x → cs[j]? = some (ifv x)
theorem IfRow.set {gb n : Nat} {xs : List S23} {w : World} (h : IfRow gb n xs w) (x : S23) (hl : xs.length < n) : IfRow gb n (xs ++ [x]) (w.setCell ⟨gb, xs.length, none⟩ (ifv x)) := by
  obtain ⟨cs, h1, h2, h3⟩ := h
  refine ⟨cs.setIfInBounds xs.length (ifv x), Lib.heap_setCell_same (i := xs.length) h1 (ifv x), by simp [h2], fun j y hj => ?_⟩
  rw [Array.getElem?_setIfInBounds]
  by_cases e : xs.length = j
  · subst e
    rw [List.getElem?_append_right (Nat.le_refl _)] at hj
    simp only [Nat.sub_self, List.getElem?_cons_zero, Option.some.injEq] at hj
    subst hj
    rw [if_pos rfl, if_pos (by omega)]
  · rw [if_neg e]
    refine h3 j y ?_
    have hlt := (List.getElem?_eq_some_iff.1 hj).1
    rw [List.length_append, List.length_singleton] at hlt
    rwa [List.getElem?_append_left (by omega)] at hj
theorem IfRow.move {gb n : Nat} {xs : List S23} {w w' : World} (h : IfRow gb n xs w) (hk : w'.heap[gb]? = w.heap[gb]?) : IfRow gb n xs w' := by
  obtain ⟨cs, h1, h2, h3⟩ := h
  exact ⟨cs, hk.trans h1, h2, h3⟩
theorem IfRow.lt {gb n : Nat} {xs : List S23} {w : World} (h : IfRow gb n xs w) : gb < w.heap.size := by obtain ⟨cs, h1, _⟩ := h; exact blk_lt h1
theorem IfRow.frozen {gb n : Nat} {xs : List S23} {w : World} (h : IfRow gb n xs w) (i : Nat) : w.frozen? ⟨gb, i, none⟩ = false := by obtain ⟨cs, h1, _⟩ := h; exact blk_frozen h1 i
theorem IfRow.cell {gb n : Nat} {xs : List S23} {w : World} (h : IfRow gb n xs w) (i : Nat) (hi : i < n) : ∃ v, w.cell? ⟨gb, i, none⟩ = some v := by
  obtain ⟨cs, h1, h2, h3⟩ := h
  exact ⟨cs[i]'(by omega), by rw [blk_cell h1]; simp [h2, hi]⟩
theorem IfRow.C {gb : Nat} {xs : List S23} {w : World} (h : IfRow gb xs.length xs w) (hl : xs.length ≤ 1000000) : Kd.C kIf w (some ⟨gb, 0, none⟩) xs.length xs := by
  obtain ⟨cs, h1, h2, h3⟩ := h
  refine ⟨rfl, by omega, fun _ => ⟨⟨gb, 0, none⟩, rfl, fun j p hj => ⟨[ifv p], rfl, rfl, fun i u hu => ?_⟩⟩⟩
  obtain ⟨rfl, rfl⟩ : i = 0 ∧ u = ifv p := by
    cases i with
    | zero => exact ⟨rfl, by simpa using hu.symm⟩
    | succ i => simp at hu
  show w.cell? (Addr.add ⟨gb, 0, none⟩ (j * 1 + 0)) = _
  rw [Nat.mul_one, Nat.add_zero, Lib.addr_add, blk_cell h1]
  have : 0 + j = j := by omega
  rw [this]
  exact h3 j p hj
def mkI (n : Nat) : Obj := .cells (madeCells #[.nilIface] (n * 1)) 88
theorem mk_ifs (n : Nat) (hn : n ≤ 1000000) : ∀ W : World, (Instr.makeSlice 107 (.int .i32 (n : Int)) (.int .i32 (n : Int))).run Tryz.prog W = .ok (.slice (some ⟨W.heap.size, 0, none⟩) n n) (W.alloc (mkI n)) := by
  intro W
  have hm : (Tryz.prog.info? 88).map (fun i => (i.zero, i.size, i.bytes)) = some (some .nilIface, 1, 16) := by kernel_rfl
  obtain ⟨i, hi, he⟩ := Option.map_eq_some_iff.1 hm
  simp only [Prod.mk.injEq] at he
  obtain ⟨hz, hs, hb⟩ := he
  have h := run_makeSlice (P := Tryz.prog) W 107 88 i _ Tryz.underlying107 hi hz .i32 .i32 (n : Int) (n : Int) (by omega) (Int.le_refl _) (by rw [hs]; simp; omega) (by rw [hb]; simp; omega) (by omega)
  rw [hs, show (Value.nilIface).cells = #[.nilIface] from rfl] at h
  simpa [mkI] using h
theorem mkI_row (w : World) (n : Nat) : IfRow w.heap.size n [] (w.alloc (mkI n)) := ⟨madeCells #[.nilIface] (n * 1), heap_alloc_new w _, by rw [size_madeCells, Nat.mul_one], fun j x h => by simp at h⟩
end Go.Proofs.YtgdbeiadlgkedaaGreatDoor
set_option linter.unusedVariables false
set_option linter.unusedSimpArgs false
namespace Go.Proofs.YtgdbeiadlgkedaaGreatDoor
open Go.RowKit PFnWindowOne Go.Proofs.YtgdbeiadlgkedaaGreatDoorW.PrintWords
theorem grown_setgeZ {r : Nat} {w w' : World} (h : w.grownBy w' (some r)) {p : Addr} (hp : w.heap.size ≤ p.block) (v : Value) : w.grownBy (w'.setCell p v) (some r) :=
  ⟨h.os, h.tape, h.output, by simpa [World.setCell] using h.size, fun i hi hr => (Below.heap_setCell _ _ _ _ (by omega)).trans (h.block i hi hr)⟩
set_option maxHeartbeats 8000000 in
set_option maxRecDepth 100000 in
theorem decAll_ok (B : Nat) (pe pl : Addr) (a : Option Addr) (r g : Nat) (l : List UInt8) (i : Nat) (w : World) (h : Rd r g l i w) (he : Env B pe pl w) (hBr : B ≤ r) (hB : B ≤ w.heap.size) (hi : i + 4 ≤ l.length) (n : Nat) (hn : wrap32 (Lib.beNat ((l.drop i).take 4) : Nat) = (n : Int)) (hn2 : n ≤ 10000) (xs : List S23) (q : Nat) (hx : rdWins n (l.drop (i + 4)) = some (xs, q)) :
    Calls Tryz.prog 159 #[.pointer a, rdI r] w fun e w' => ∃ gb, e = .returned (.tuple #[.slice (some ⟨gb, 0, none⟩) n n, .nilIface]) ∧ IfRow gb n xs w' ∧ xs.length = n ∧ w.heap.size ≤ gb ∧ w.grownBy w' (some r) ∧ Rd r g l (i + 4 + q) w' := by
  have hC := decI32_ok r g l i w h hi
  rw [hn] at hC
  have HC := Lib.hid hC
  have HX := Lib.hid hx
  have HE := Lib.hid (And.intro he (And.intro hBr hB))
  have HRG := Lib.hid (And.intro h.lt h.ltg)
  have km := mk_ifs n (by omega)
  clear h he hBr hB hi hn hx hC
  go_enter Tryz.func159, Tryz.ntmps159
  go_wp2_with (go_at_call 84; go_loud (refine HC.out.mono ?_; rintro e_ w1 ⟨rfl, hg, hr⟩; have H1 := Lib.hid (And.intro hg hr); clear hg hr))
  have HR1 := Lib.hid (mkI_row w1 n)
  have HG1 := Lib.hid (show w.grownBy (w1.alloc (mkI n)) (some r) from grown_alloc H1.out.1 _)
  have HD1 := Lib.hid (show Rd r g l (i + 4) (w1.alloc (mkI n)) from H1.out.2.alloc _)
  have HS := Lib.hid (show w.heap.size ≤ w1.heap.size from H1.out.1.size)
  clear km HC H1
  generalize w1.alloc (mkI n) = W1 at HR1 HG1 HD1 ⊢
  go_loopg [9] n (fun kq v9 w' => ∃ (k : Nat) (ys zs : List S23) (p q' : Nat), k ≤ n ∧ Aside0 (kq = n - k) ∧ v9 = .int .i32 k ∧ Hid (xs = ys ++ zs ∧ ys.length = k ∧ rdWins (n - k) (l.drop p) = some (zs, q') ∧ p + q' = i + 4 + q) ∧ Hid (IfRow w1.heap.size n ys w') ∧ Hid (Rd r g l p w') ∧ Hid (w.grownBy w' (some r)))
  case atStart => exact ⟨0, [], xs, i + 4, q, Nat.zero_le _, ⟨by simp⟩, rfl, Lib.hid ⟨rfl, rfl, HX.out, rfl⟩, HR1, HD1, HG1⟩
  case round =>
    clear HR1 HG1 HD1
    obtain ⟨k, ys, zs, p, q', hk, hq, rfl, HP, HR, HD, HG⟩ := hrel
    by_cases hlt : k < n
    · obtain ⟨m, hm⟩ : ∃ m, n - k = m + 1 := ⟨n - k - 1, by omega⟩
      have hp := HP.out.2.2.1
      rw [hm] at hp
      obtain ⟨x, kk, zs', q'', h1, h2, h3, h4⟩ := rdWins_ok hp
      have HS1 := Lib.hid (decSingle_win B pe pl a r g l p _ HD.out (HE.out.1.below (grown_below HG.out HE.out.2.2 HE.out.2.1)) HE.out.2.1 (Nat.le_trans HE.out.2.2 HG.out.size) x kk h1)
      have HN := Lib.hid (show xs = (ys ++ [x]) ++ zs' ∧ (ys ++ [x]).length = k + 1 ∧ rdWins (n - (k + 1)) (l.drop (p + kk)) = some (zs', q'') ∧ (p + kk) + q'' = i + 4 + q from by
        refine ⟨by rw [HP.out.1, h3]; simp, by rw [List.length_append, HP.out.2.1]; rfl, ?_, by have := HP.out.2.2.2; omega⟩
        rw [show n - (k + 1) = m by omega, ← List.drop_drop]; exact h2)
      obtain ⟨t_, v_, hv_⟩ := ifv_iface x
      have HV := Lib.hid hv_
      rw [hv_] at HS1
      have qi : IntKind.i32.wrap ((k : Int) + 1) = ((k + 1 : Nat) : Int) := by rw [IntKind.wrap_i32]; omega
      have qi2 : wrap32 ((k : Int) + 1) = ((k + 1 : Nat) : Int) := by unfold wrap32; omega
      clear hp h1 h2 h3 h4 hv_ hm
      go_wp2_with (go_at_call 160; go_loud (refine HS1.out.mono ?_; rintro e_ w2 ⟨rfl, hg, hd⟩; have hr2 := HR.out.move (hg.block _ HR.out.lt (by have := HRG.out.1; have := HS.out; intro e; cases e; omega)); have f0 := hr2.frozen k; obtain ⟨v0, c0⟩ := hr2.cell k hlt; have HR2 := Lib.hid hr2; have HD2 := Lib.hid hd; have HG2 := Lib.hid (grown_trans HG.out hg); clear hg hd hr2))
      go_roundg (n - (k + 1))
      case measure => have := hq.out; omega
      case rel =>
        refine ⟨k + 1, ys ++ [x], zs', p + kk, q'', by omega, ⟨rfl⟩, by first | rfl | (simp only [qi]; done) | (simp only [qi2]; done), HN, Lib.hid ?_, Lib.hid ?_, Lib.hid ?_⟩
        · have := HR2.out.set x (by rw [HP.out.2.1]; exact hlt)
          rw [HP.out.2.1, HV.out] at this
          exact this
        · exact HD2.out.set _ _ (by have := HRG.out.1; have := HS.out; show w1.heap.size ≠ r; omega) (by have := HRG.out.2; have := HS.out; show w1.heap.size ≠ g; omega)
        · exact grown_setgeZ HG2.out (by exact HS.out) _
    · have hkl : k = n := by omega
      subst hkl
      go_wp2
      go_ret2
      obtain ⟨e1, e2, e3, e4⟩ := HP.out
      rw [Nat.sub_self] at e3
      obtain ⟨rfl, rfl⟩ : zs = [] ∧ 0 = q' := by simpa [rdWins] using e3
      rw [List.append_nil] at e1
      subst e1
      refine ⟨_, rfl, HR.out, e2, HS.out, HG.out, ?_⟩
      rw [← e4]; exact HD.out
set_option maxHeartbeats 8000000 in
set_option maxRecDepth 100000 in
theorem decAll_bad (B : Nat) (pe pl : Addr) (a : Option Addr) (r g : Nat) (l : List UInt8) (i : Nat) (w : World) (h : Rd r g l i w) (he : Env B pe pl w) (hBr : B ≤ r) (hB : B ≤ w.heap.size) (hi : i + 4 ≤ l.length) (n : Nat) (hn : wrap32 (Lib.beNat ((l.drop i).take 4) : Nat) = (n : Int)) (hn2 : n ≤ 10000) (hx : rdWins n (l.drop (i + 4)) = none) :
    Calls Tryz.prog 159 #[.pointer a, rdI r] w fun e w' => ∃ ev, e = .returned (.tuple #[.slice none 0 0, ev]) ∧ Fell r g l w w' ev := by
  have hC := decI32_ok r g l i w h hi
  rw [hn] at hC
  have HC := Lib.hid hC
  have HX := Lib.hid hx
  have HE := Lib.hid (And.intro he (And.intro hBr hB))
  have HRG := Lib.hid (And.intro h.lt h.ltg)
  have km := mk_ifs n (by omega)
  clear h he hBr hB hi hn hx hC
  go_enter Tryz.func159, Tryz.ntmps159
  go_wp2_with (go_at_call 84; go_loud (refine HC.out.mono ?_; rintro e_ w1 ⟨rfl, hg, hr⟩; have H1 := Lib.hid (And.intro hg hr); clear hg hr))
  have HR1 := Lib.hid (mkI_row w1 n)
  have HG1 := Lib.hid (show w.grownBy (w1.alloc (mkI n)) (some r) from grown_alloc H1.out.1 _)
  have HD1 := Lib.hid (show Rd r g l (i + 4) (w1.alloc (mkI n)) from H1.out.2.alloc _)
  have HS := Lib.hid (show w.heap.size ≤ w1.heap.size from H1.out.1.size)
  clear km HC H1
  generalize w1.alloc (mkI n) = W1 at HR1 HG1 HD1 ⊢
  go_loopg [9] n (fun kq v9 w' => ∃ (k : Nat) (ys : List S23) (p : Nat), k ≤ n ∧ Aside0 (kq = n - k) ∧ v9 = .int .i32 k ∧ Hid (ys.length = k ∧ rdWins (n - k) (l.drop p) = none) ∧ Hid (IfRow w1.heap.size n ys w') ∧ Hid (Rd r g l p w') ∧ Hid (w.grownBy w' (some r)))
  case atStart => exact ⟨0, [], i + 4, Nat.zero_le _, ⟨by simp⟩, rfl, Lib.hid ⟨rfl, HX.out⟩, HR1, HD1, HG1⟩
  case round =>
    clear HR1 HG1 HD1
    obtain ⟨k, ys, p, hk, hq, rfl, HP, HR, HD, HG⟩ := hrel
    by_cases hlt : k < n
    · obtain ⟨m, hm⟩ : ∃ m, n - k = m + 1 := ⟨n - k - 1, by omega⟩
      have hp := HP.out.2
      rw [hm] at hp
      rcases rdWins_bad hp with h1 | ⟨x, kk, h1, h2⟩
      · have HS1 := Lib.hid (decSingle_none B pe pl a r g l p _ HD.out (HE.out.1.below (grown_below HG.out HE.out.2.2 HE.out.2.1)) HE.out.2.1 (Nat.le_trans HE.out.2.2 HG.out.size) h1)
        clear hp h1 hm
        go_wp2_with (go_at_call 160; go_loud (refine HS1.out.mono ?_; rintro e_ w2 ⟨ev, rfl, h1⟩; obtain ⟨a, s, rfl, h2⟩ : ∃ a s, ev = errV a ∧ Hid (w2.cell? a = some (.string s) ∧ s.data.toList ≠ []) := (by obtain ⟨a, s, e1, e2, e3⟩ := h1.2.1; exact ⟨a, s, e1, Lib.hid ⟨e2, e3⟩⟩); have H2 := Lib.hid (show Fell r g l w w2 (errV a) from ⟨grown_trans HG.out h1.1, h1.2.1, h1.2.2⟩); clear h1))
        go_ret2
        exact ⟨errV a, rfl, H2.out⟩
      · have HS1 := Lib.hid (decSingle_win B pe pl a r g l p _ HD.out (HE.out.1.below (grown_below HG.out HE.out.2.2 HE.out.2.1)) HE.out.2.1 (Nat.le_trans HE.out.2.2 HG.out.size) x kk h1)
        have HN := Lib.hid (show (ys ++ [x]).length = k + 1 ∧ rdWins (n - (k + 1)) (l.drop (p + kk)) = none from by
          refine ⟨by rw [List.length_append, HP.out.1]; rfl, ?_⟩
          rw [show n - (k + 1) = m by omega, ← List.drop_drop]; exact h2)
        obtain ⟨t_, v_, hv_⟩ := ifv_iface x
        have HV := Lib.hid hv_
        rw [hv_] at HS1
        have qi : IntKind.i32.wrap ((k : Int) + 1) = ((k + 1 : Nat) : Int) := by rw [IntKind.wrap_i32]; omega
        have qi2 : wrap32 ((k : Int) + 1) = ((k + 1 : Nat) : Int) := by unfold wrap32; omega
        clear hp h1 h2 hv_ hm
        go_wp2_with (go_at_call 160; go_loud (refine HS1.out.mono ?_; rintro e_ w2 ⟨rfl, hg, hd⟩; have hr2 := HR.out.move (hg.block _ HR.out.lt (by have := HRG.out.1; have := HS.out; intro e; cases e; omega)); have f0 := hr2.frozen k; obtain ⟨v0, c0⟩ := hr2.cell k hlt; have HR2 := Lib.hid hr2; have HD2 := Lib.hid hd; have HG2 := Lib.hid (grown_trans HG.out hg); clear hg hd hr2))
        go_roundg (n - (k + 1))
        case measure => have := hq.out; omega
        case rel =>
          refine ⟨k + 1, ys ++ [x], p + kk, by omega, ⟨rfl⟩, by first | rfl | (simp only [qi]; done) | (simp only [qi2]; done), HN, Lib.hid ?_, Lib.hid ?_, Lib.hid ?_⟩
          · have := HR2.out.set x (by rw [HP.out.1]; exact hlt)
            rw [HP.out.1, HV.out] at this
            exact this
          · exact HD2.out.set _ _ (by have := HRG.out.1; have := HS.out; show w1.heap.size ≠ r; omega) (by have := HRG.out.2; have := HS.out; show w1.heap.size ≠ g; omega)
          · exact grown_setgeZ HG2.out (by exact HS.out) _
    · exfalso
      have hkl : k = n := by omega
      have := HP.out.2
      rw [hkl, Nat.sub_self] at this
      simp [rdWins] at this
set_option maxHeartbeats 8000000 in
set_option maxRecDepth 100000 in
theorem decAll_few (B : Nat) (pe pl : Addr) (a : Option Addr) (r g : Nat) (l : List UInt8) (i : Nat) (w : World) (h : Rd r g l i w) (he : Env B pe pl w) (hBr : B ≤ r) (hi : ¬ i + 4 ≤ l.length) :
    Calls Tryz.prog 159 #[.pointer a, rdI r] w fun e w' => ∃ gb ev, e = .returned (.tuple #[.slice (some ⟨gb, 0, none⟩) 0 0, ev]) ∧ Fell r g l w w' ev := by
  have HC := Lib.hid (decI32_bad B pe pl r g l i w h he hBr hi)
  have km : ∀ W : World, (Instr.makeSlice 107 (.int .i32 0) (.int .i32 0)).run Tryz.prog W = .ok (.slice (some ⟨W.heap.size, 0, none⟩) 0 0) (W.alloc (mkI 0)) := fun W => mk_ifs 0 (by omega) W
  clear h he hBr hi
  go_enter Tryz.func159, Tryz.ntmps159
  go_wp2_with (go_at_call 84; go_loud (refine HC.out.mono ?_; rintro e_ w1 ⟨ev, rfl, h1⟩; obtain ⟨a, s, rfl, h2⟩ : ∃ a s, ev = errV a ∧ Hid (w1.cell? a = some (.string s) ∧ s.data.toList ≠ []) := (by obtain ⟨a, s, e1, e2, e3⟩ := h1.2.1; exact ⟨a, s, e1, Lib.hid ⟨e2, e3⟩⟩); have H1 := Lib.hid h1; clear h1))
  have HF := Lib.hid (show Fell r g l w (w1.alloc (mkI 0)) (errV a) from ⟨grown_alloc H1.out.1 _, H1.out.2.1.kept (fun k hk => Below.heap_alloc _ _ k hk), by obtain ⟨i', h⟩ := H1.out.2.2; exact ⟨i', h.alloc _⟩⟩)
  generalize w1.alloc (mkI 0) = W1 at HF ⊢
  go_loopg [9] 0 (fun kq v9 w' => v9 = .int .i32 0 ∧ Hid (Fell r g l w w' (errV a)))
  case atStart => exact ⟨rfl, HF⟩
  case round =>
    clear HF
    obtain ⟨rfl, HF⟩ := hrel
    go_wp2
    go_ret2
    exact ⟨_, errV a, rfl, HF.out⟩
end Go.Proofs.YtgdbeiadlgkedaaGreatDoor
set_option linter.unusedVariables false
set_option linter.unusedSimpArgs false
namespace Go.Proofs.YtgdbeiadlgkedaaGreatDoor
open Go.RowKit PFnWindowOne Go.Proofs.YtgdbeiadlgkedaaGreatDoorW.PrintWords
abbrev gSp : S23 := ⟨true, 0, 0⟩
theorem oneIf (w : World) : Kd.C kIf (w.alloc (.cells #[.iface 192 (.agg #[])] 88)) (some ⟨w.heap.size, 0, none⟩) [gSp].length [gSp] := by
  refine ⟨rfl, by simp, fun _ => ⟨⟨w.heap.size, 0, none⟩, rfl, fun j p hj => ⟨[ifv p], rfl, rfl, fun i u hu => ?_⟩⟩⟩
  obtain ⟨rfl, rfl⟩ : j = 0 ∧ gSp = p := by
    cases j with
    | zero => exact ⟨rfl, by simpa using hj⟩
    | succ j => simp at hj
  obtain ⟨rfl, rfl⟩ : i = 0 ∧ u = ifv gSp := by
    cases i with
    | zero => exact ⟨rfl, by simpa using hu.symm⟩
    | succ i => simp at hu
  exact (blk_cell (heap_alloc_new w _) 0).trans rfl
theorem single_any (w : World) : Calls Tryz.prog 158 #[] w fun x w' => x = .returned (.slice (some ⟨w.heap.size, 0, none⟩) 1 1) ∧ w' = w.alloc (.cells #[.iface 192 (.agg #[])] 88) := by
  go_enter Tryz.func158, Tryz.ntmps158
  go_wp2
  go_ret
  exact ⟨rfl, rfl⟩
set_option maxHeartbeats 4000000 in
set_option maxRecDepth 100000 in
theorem decGlob_few (B : Nat) (pe pl : Addr) (a : Option Addr) (r g : Nat) (l : List UInt8) (i : Nat) (w : World) (h : Rd r g l i w) (he : Env B pe pl w) (hBr : B ≤ r) (hi : ¬ i + 4 ≤ l.length) :
    Calls Tryz.prog 156 #[.pointer a, rdI r] w fun e w' => ∃ gb ev, e = .returned (.tuple #[.slice (some ⟨gb, 0, none⟩) 1 1, ev]) ∧ Kd.C kIf w' (some ⟨gb, 0, none⟩) [gSp].length [gSp] ∧ Fell r g l w w' ev := by
  have HC := Lib.hid (decI32_bad B pe pl r g l i w h he hBr hi)
  clear h he hBr hi
  go_enter Tryz.func156, Tryz.ntmps156
  go_wp2_with (first
    | (go_at_call 84; go_loud (refine HC.out.mono ?_; rintro e_ w1 ⟨ev, rfl, h1⟩; obtain ⟨a, s, rfl, h2⟩ : ∃ a s, ev = errV a ∧ Hid (w1.cell? a = some (.string s) ∧ s.data.toList ≠ []) := (by obtain ⟨a, s, e1, e2, e3⟩ := h1.2.1; exact ⟨a, s, e1, Lib.hid ⟨e2, e3⟩⟩); have H1 := Lib.hid h1; clear h1))
    | (go_at_call 158; go_loud (refine (single_any _).mono ?_; rintro e_ w2 ⟨rfl, hw⟩; have H2 := Lib.hid (show Kd.C kIf w2 (some ⟨w1.heap.size, 0, none⟩) [gSp].length [gSp] ∧ Fell r g l w w2 (errV a) by rw [hw]; exact ⟨oneIf w1, grown_alloc H1.out.1 _, H1.out.2.1.kept (fun k hk => Below.heap_alloc _ _ k hk), by obtain ⟨i', h⟩ := H1.out.2.2; exact ⟨i', h.alloc _⟩⟩); clear hw)))
  go_ret2
  exact ⟨_, errV a, rfl, H2.out⟩
theorem mthF_1 (a : Nat) : ∀ W : World, (nilAhead 95 199 (.pointer (some ⟨a, 0, none⟩)) "Decode").run Tryz.prog W = .ok (some false) W := fun _ => by kernel_rfl
theorem mthF_0 (a : Nat) : ∀ W : World, (nilAhead 95 197 (.pointer (some ⟨a, 0, none⟩)) "Decode").run Tryz.prog W = .ok (some false) W := fun _ => by kernel_rfl
theorem nz_id {l : List S23} (h : ∀ x ∈ l, x.f0 = false) : l.map nz = l := by
  induction l with
  | nil => rfl
  | cons x l ih => rw [List.map_cons, ih (fun y hy => h y (List.mem_cons_of_mem _ hy))]; unfold nz; rw [h x List.mem_cons_self]; rfl
theorem rdWins_f0 : ∀ (n : Nat) (l : List UInt8) (xs : List S23) (q : Nat), rdWins n l = some (xs, q) → xs.length = n ∧ ∀ x ∈ xs, x.f0 = false
  | 0, l, xs, q, h => by simp [rdWins] at h; obtain ⟨rfl, rfl⟩ := h; simp
  | n + 1, l, xs, q, h => by
    obtain ⟨x, k, ys, q', h1, h2, rfl, rfl⟩ := rdWins_ok h
    obtain ⟨e, f⟩ := rdWins_f0 n _ ys q' h2
    obtain ⟨_, v, k', _, hx, _⟩ := rdWin_some h1
    refine ⟨by rw [List.length_cons, e], fun y hy => ?_⟩
    rcases List.mem_cons.1 hy with rfl | hy
    · rw [hx]
    · exact f y hy
end Go.Proofs.YtgdbeiadlgkedaaGreatDoor
set_option linter.unusedVariables false
set_option linter.unusedSimpArgs false
namespace Go.Proofs.YtgdbeiadlgkedaaGreatDoor
open Go.RowKit PFnWindowOne Go.Proofs.YtgdbeiadlgkedaaGreatDoorW.PrintWords
theorem rd32_map (l : List S23) (k : Nat) (h : k < l.length) : rd_T32 (l.map toS) (k : Int) = toS (rdN l k) := by
  rw [rd32_at _ k (by rw [List.length_map]; exact h), List.getElem_map, rdN_at l k h]
theorem atS {w : World} {A : Option Addr} {n : Nat} {l : List S23} (h : Kd.C k32 w A n (l.map toS)) (hn : n = l.length) (i : Nat) (h1 : i < n) : ∃ ad, A = some ad ∧ w.cell? (ad.add (i * 3)) = some (.bool (rdN l i).f0) ∧ w.cell? ⟨(ad.add (i * 3)).block, (ad.add (i * 3)).off + 1, none⟩ = some (.int .i64 (rdN l i).f1) ∧ w.cell? ⟨(ad.add (i * 3)).block, (ad.add (i * 3)).off + 2, none⟩ = some (.int .i64 (rdN l i).f2) := by
  obtain ⟨ad, e, h0, h1, h2⟩ := at_T32 h (i : Int) (by omega) (by omega)
  rw [rd32_map l i (by omega)] at h0 h1 h2
  exact ⟨ad, e, h0, h1, h2⟩
end Go.Proofs.YtgdbeiadlgkedaaGreatDoor
set_option linter.unusedVariables false
set_option linter.unusedSimpArgs false
namespace Go.Proofs.YtgdbeiadlgkedaaGreatDoor
open Go.RowKit PFnWindowOne Go.Proofs.YtgdbeiadlgkedaaGreatDoorW.PrintWords
theorem eqA32 (d : Nat) (w : World) (x0 y0 : Bool) (x1 y1 : Int) (x2 y2 : Int) :
    (Op.equalIn (d + 2) 32 (.agg #[.bool x0, .int .i64 x1, .int .i64 x2]) (.agg #[.bool y0, .int .i64 y1, .int .i64 y2])).run Tryz.prog w = .ok (x0 == y0 && (x1 == y1 && (x2 == y2))) w := by
  refine eqA_of Tryz.underlying32 (by kernel_rfl) ?_
  refine eqf_cons (by rfl) (by go_simp; rfl) (by go_simp; rfl) (by go_simp) ?_
  refine eqf_cons (by rfl) (by go_simp; rfl) (by go_simp; rfl) (by go_simp) ?_
  exact eqf_last (by rfl) (by go_simp; rfl) (by go_simp; rfl) (by go_simp)
attribute [local go_sem high] eqA32
set_option maxHeartbeats 1000000 in
set_option maxRecDepth 100000 in
theorem same_eq (A0 : Option Addr) (c0 : Nat) (A1 : Option Addr) (c1 : Nat) (l : List S23) (w : World) (hr0 : Kd.C k32 w A0 l.length (l.map toS)) (hr1 : Kd.C k32 w A1 l.length (l.map toS)) :
    Calls Tryz.prog 18 #[.slice A0 l.length c0, .slice A1 l.length c1] w fun e w' => e = .returned (.bool true) ∧ ∃ q, w' = w.drewN q := by
  have HR0 := Aside0.mk hr0
  have HR1 := Aside0.mk hr1
  have hlen : l.length ≤ 9223372036854775807 := hr0.2.1
  have c3b0 : ((l.length : Int) == (l.length : Int)) = true := by simp
  have c3b1 : ((l.length : Int) != (l.length : Int)) = false := by simp
  clear hr0 hr1
  go_enter Tryz.func18, Tryz.ntmps18
  go_wp2
  repeat (go_quiet (fail); try go_wp2)
  go_loopg [13] l.length (fun kq v13 w' => ∃ k : Nat, k ≤ l.length ∧ Aside0 (kq = l.length - k) ∧ v13 = .int .i64 k ∧ ∃ q, w' = w.drewN q)
  case atStart => exact ⟨0, Nat.zero_le _, ⟨by simp⟩, rfl, ⟨0, rfl⟩⟩
  case round =>
    clear c3b0 c3b1
    obtain ⟨k, hk, hq, rfl, ⟨m1, rfl⟩⟩ := hrel
    by_cases hlt : k < l.length
    · obtain ⟨ad0, e0, hx0, hx1, hx2⟩ := atS HR0.out rfl k hlt
      cases e0
      obtain ⟨ad1, e1, hy0, hy1, hy2⟩ := atS HR1.out rfl k hlt
      cases e1
      have q0 : (k : Int) < (l.length : Int) := by omega
      have q2 : (0 : Int) ≤ (k : Int) := by omega
      go_wp2
      repeat (go_quiet (fail); try go_wp2)
      go_roundg (l.length - (k + 1))
      case measure => have := hq.out; omega
      case rel => exact ⟨k + 1, by omega, ⟨rfl⟩, by go_num, ⟨_, by first | rfl | exact World.drewN_drewN ..⟩⟩
    · go_wp2
      repeat (go_quiet (fail); try go_wp2)
      go_ret
      exact ⟨rfl, ⟨_, by first | rfl | exact World.drewN_drewN ..⟩⟩
end Go.Proofs.YtgdbeiadlgkedaaGreatDoor
set_option linter.unusedVariables false
set_option linter.unusedSimpArgs false
namespace Go.Proofs.YtgdbeiadlgkedaaGreatDoor
open Go.RowKit Go.Proofs.YtgdbeiadlgkedaaGreatDoorW.PrintWords
def to32 (x : PFnWindowOne.S23) : PFnWindowsRead.S32 := ⟨x.f0, x.f1, x.f2⟩
theorem mx_nrm (T : Int) (v : Nat) (h0 : -9223372036854775 ≤ T) (h1 : T ≤ 9223372036854775) (hv : v ≤ 4611686018427387904) : Go.Proofs.YtgdbeiadlgkedaaGreatDoorW.PrintWords.mx (wrap64 (T - wrap64 (v : Int))) (-9223372036854775) = nrm (wrap64 (T - wrap64 (v : Int))) := by
  have e1 : wrap64 (v : Int) = (v : Int) := by unfold wrap64; omega
  have e2 : wrap64 (T - (v : Int)) = T - (v : Int) := by unfold wrap64; omega
  rw [e1, e2]
  unfold Go.Proofs.YtgdbeiadlgkedaaGreatDoorW.PrintWords.mx nrm
  split
  · rfl
  · rw [if_neg (by omega)]
theorem rdWin_mk {l : List UInt8} {v k : Nat} (h8 : 8 ≤ l.length) (hv : vrd 0 0 (l.drop 8) = some (v, k)) : rdWin l = some (⟨false, nrm (wrap64 (tmOf l - wrap64 (v : Nat))), tmOf l⟩, 8 + k) := by
  unfold rdWin; rw [if_neg (Nat.not_lt.2 h8), hv]; rfl
theorem rdWin_cut {l : List UInt8} (h8 : 8 ≤ l.length) (hv : vrd 0 0 (l.drop 8) = none) : rdWin l = none := by
  unfold rdWin; rw [if_neg (Nat.not_lt.2 h8), hv]; rfl
theorem rdWin_few {l : List UInt8} (h8 : l.length < 8) : rdWin l = none := by unfold rdWin; rw [if_pos h8]
theorem wrap_8 {k : Nat} (h : k ≤ 400) : wrap64 (8 + (k : Int)) = ((8 + k : Nat) : Int) := by unfold wrap64; omega
theorem spanRead1 (s : ByteArray) (hs : s.size ≤ 400) (k : Nat) (hk : 1000 ≤ k) : ∃ (g : Bool) (a e z d : Int), PFnWindowsRead.spec_CodSpanRead.f k 1 s = some (g, a, e, z, d) ∧ ((d = 0 ∧ ∃ x n, rdWin s.data.toList = some (x, n) ∧ g = x.f0 ∧ a = x.f1 ∧ e = x.f2 ∧ z = (n : Nat)) ∨ (d = 1 ∧ rdWin s.data.toList = none) ∨ d = 2) := by
  have hz : s.data.toList.length = s.size := by rw [Array.length_toList]; rfl
  unfold PFnWindowsRead.spec_CodSpanRead.f
  rw [if_neg (by decide)]
  by_cases h8 : s.size < 8
  · have := num_badk s 8 k h8
    rw [show ((8 : Nat) : Int) = 8 from rfl] at this
    rw [this]
    simp only [Option.bind_some]
    rw [if_neg (by decide)]
    exact ⟨_, _, _, _, _, rfl, .inr (.inl ⟨rfl, rdWin_few (by omega)⟩)⟩
  · have hnum := num_fk s 8 k (by omega) (by omega) (by omega)
    rw [show ((8 : Nat) : Int) = 8 from rfl] at hnum
    rw [hnum]
    simp only [Option.bind_some, if_true]
    rw [if_pos (by omega)]
    have hx : (s.extract 8 s.size).data.toList = s.data.toList.drop 8 := by
      rw [Lib.extract_data, List.take_of_length_le (by rw [List.length_drop]; omega)]
    have hxs : (s.extract 8 s.size).size ≤ 400 := by rw [ByteArray.size_extract]; omega
    rw [cvr_f (s.extract 8 s.size) (by omega) k (by omega), hx]
    have h8l : 8 ≤ s.data.toList.length := by omega
    obtain ⟨V, hV, hW⟩ := xor_time (Lib.beNat (s.data.toList.take 8)) (beNat_lt8 _ (by rw [List.length_take]; omega))
    have hT : tmOf s.data.toList = wrap64 (V : Int) := hW.symm
    cases hv : vrd 0 0 (s.data.toList.drop 8) with
    | none =>
      simp only [cvT, Option.bind_some]
      rw [if_neg (by decide)]
      exact ⟨_, _, _, _, _, rfl, .inr (.inl ⟨rfl, rdWin_cut h8l hv⟩)⟩
    | some p =>
      obtain ⟨v, kk⟩ := p
      rw [show cvT (some (v, kk)) = ((v : Int), (kk : Int), (0 : Int)) from rfl, Option.bind_some, if_pos (show ((v : Int), (kk : Int), (0 : Int)).2.2 = 0 from rfl), hV, ← hT]
      obtain ⟨T, hTT⟩ : ∃ T, tmOf s.data.toList = T := ⟨_, rfl⟩
      obtain ⟨_, _, hk1, hk2⟩ := vrd_facts _ 0 0 v kk (by decide) hv
      rw [List.length_drop] at hk1
      have hk4 : kk ≤ 400 := by omega
      rw [hTT]
      clear hT hW hk1 hk2 hnum
      unfold PFnWindowsRead.spec_CodSpanTime.f
      by_cases c1 : T ≥ -9223372036854775
      · rw [if_pos c1]
        by_cases c2 : T ≤ 9223372036854775
        · simp only [Option.bind_some, decide_eq_true c2, if_true]
          by_cases c3 : (v : Int) > 4611686018427387904
          · rw [if_pos c3]; exact ⟨_, _, _, _, _, rfl, .inr (.inr rfl)⟩
          · rw [if_neg c3, mx_nrm T v c1 c2 (by omega)]
            refine ⟨_, _, _, _, _, rfl, .inl ⟨rfl, ⟨false, nrm (wrap64 (T - wrap64 (v : Nat))), T⟩, 8 + kk, ?_, rfl, rfl, rfl, ?_⟩⟩
            · rw [rdWin_mk h8l hv, hTT]
            · exact wrap_8 hk4
        · simp only [Option.bind_some, decide_eq_false c2]
          exact ⟨_, _, _, _, _, rfl, .inr (.inr rfl)⟩
      · rw [if_neg c1]
        simp only [Option.bind_some]
        exact ⟨_, _, _, _, _, rfl, .inr (.inr rfl)⟩
theorem rdWin_le {l : List UInt8} {x : PFnWindowOne.S23} {n : Nat} (h : rdWin l = some (x, n)) : n ≤ l.length := by
  obtain ⟨h8, v, k, hv, _, rfl⟩ := rdWin_some h
  obtain ⟨_, _, h1, _⟩ := vrd_facts _ 0 0 v k (by decide) hv
  rw [List.length_drop] at h1
  omega
theorem spansRead_l (s : ByteArray) (hs : s.size ≤ 400) (n : Nat) (hn : n ≤ 10000) : ∀ (m i p k : Nat) (x9 : List PFnWindowsRead.S32), i + m = n → x9.length = i → p ≤ s.size → m + 1000 ≤ k →
    ∃ (L : List PFnWindowsRead.S32) (z d : Int), PFnWindowsRead.spec_CodSpansRead.l0 (k + 1) 1 s x9 (p : Nat) (n : Nat) (i : Nat) = some (L, z, d) ∧ ((d = 0 ∧ ∃ ys q, rdWins m (s.data.toList.drop p) = some (ys, q) ∧ L = x9 ++ ys.map to32 ∧ z = ((p + q : Nat) : Int)) ∨ (d = 1 ∧ rdWins m (s.data.toList.drop p) = none) ∨ d = 2)
  | 0, i, p, k, x9, h, hx, hp, hk => by
    rw [PFnWindowsRead.spec_CodSpansRead.l0, if_neg (by omega)]
    exact ⟨_, _, _, rfl, .inl ⟨rfl, [], 0, rfl, by simp, rfl⟩⟩
  | m + 1, i, p, k, x9, h, hx, hp, hk => by
    have hz : s.data.toList.length = s.size := by rw [Array.length_toList]; rfl
    rw [PFnWindowsRead.spec_CodSpansRead.l0, if_pos (by omega), if_pos (by omega), if_pos (by omega), Int.toNat_natCast]
    have hxx : (s.extract p s.size).data.toList = s.data.toList.drop p := by
      rw [Lib.extract_data, List.take_of_length_le (by rw [List.length_drop]; omega)]
    obtain ⟨g, a, e, z, d, hr, hc⟩ := spanRead1 (s.extract p s.size) (by rw [ByteArray.size_extract]; omega) k (by omega)
    rw [hxx] at hc
    rw [hr]
    simp only [Option.bind_some]
    rcases hc with ⟨rfl, x, q, h1, rfl, rfl, rfl, rfl⟩ | ⟨rfl, h1⟩ | rfl
    · have hq := rdWin_le h1
      rw [List.length_drop] at hq
      have w1 : wrap64 ((p : Int) + (q : Int)) = ((p + q : Nat) : Int) := by unfold wrap64; omega
      have w2 : IntKind.u64.wrap ((i : Int) + 1) = ((i + 1 : Nat) : Int) := by rw [IntKind.wrap_u64]; omega
      rw [if_pos rfl, if_pos (by omega), w1, w2]
      obtain ⟨k', rfl⟩ : ∃ k', k = k' + 1 := ⟨k - 1, by omega⟩
      obtain ⟨L, z', d', hr', hc'⟩ := spansRead_l s hs n hn m (i + 1) (p + q) k' (x9 ++ [(⟨x.f0, x.f1, x.f2⟩ : PFnWindowsRead.S32)]) (by omega) (by simp [hx]) (by omega) (by omega)
      refine ⟨L, z', d', hr', ?_⟩
      rw [← List.drop_drop] at hc'
      rcases hc' with ⟨rfl, ys, q', h2, rfl, rfl⟩ | ⟨rfl, h2⟩ | rfl
      · refine .inl ⟨rfl, x :: ys, q + q', ?_, by simp [to32], by congr 1; omega⟩
        simp only [rdWins, h1, Option.bind_some, h2, Option.map_some]
      · refine .inr (.inl ⟨rfl, ?_⟩)
        simp only [rdWins, h1, Option.bind_some, h2, Option.map_none]
      · exact .inr (.inr rfl)
    · rw [if_neg (by decide)]
      refine ⟨_, _, _, rfl, .inr (.inl ⟨rfl, ?_⟩)⟩
      simp only [rdWins, h1, Option.bind_none]
    · rw [if_neg (by decide)]
      exact ⟨_, _, _, rfl, .inr (.inr rfl)⟩
def nWins (l : List UInt8) : Nat := Lib.beNat (l.take 4)
theorem spansRead_f1 (s : ByteArray) (hs : s.size ≤ 400) : ∃ (L : List PFnWindowsRead.S32) (z d : Int), PFnWindowsRead.spec_CodSpansRead.f 20000 1 s = some (L, z, d) ∧ ((d = 0 ∧ 4 ≤ s.size ∧ nWins s.data.toList ≤ 10000 ∧ ∃ ys q, rdWins (nWins s.data.toList) (s.data.toList.drop 4) = some (ys, q) ∧ L = ys.map to32 ∧ z = ((4 + q : Nat) : Int)) ∨ (d = 1 ∧ (s.size < 4 ∨ (4 ≤ s.size ∧ nWins s.data.toList ≤ 10000 ∧ rdWins (nWins s.data.toList) (s.data.toList.drop 4) = none))) ∨ d = 2) := by
  unfold PFnWindowsRead.spec_CodSpansRead.f
  by_cases h4 : s.size < 4
  · have := num_badk s 4 20000 h4
    rw [show ((4 : Nat) : Int) = 4 from rfl] at this
    rw [this]
    simp only [Option.bind_some]
    rw [if_neg (by decide)]
    exact ⟨_, _, _, rfl, .inr (.inl ⟨rfl, .inl h4⟩)⟩
  · have hnum := num_fk s 4 20000 (by omega) (by omega) (by omega)
    rw [show ((4 : Nat) : Int) = 4 from rfl] at hnum
    rw [hnum]
    simp only [Option.bind_some, if_true]
    rw [if_neg (by decide), show Lib.beNat (s.data.toList.take 4) = nWins s.data.toList from rfl]
    by_cases hn : ((nWins s.data.toList : Nat) : Int) > 10000
    · rw [if_pos hn]; exact ⟨_, _, _, rfl, .inr (.inr rfl)⟩
    · rw [if_neg hn]
      obtain ⟨L, z, d, hr, hc⟩ := spansRead_l s hs (nWins s.data.toList) (by omega) (nWins s.data.toList) 0 4 19999 [] (by omega) rfl (by omega) (by omega)
      refine ⟨L, z, d, hr, ?_⟩
      rcases hc with ⟨rfl, ys, q, h1, rfl, rfl⟩ | ⟨rfl, h1⟩ | rfl
      · exact .inl ⟨rfl, by omega, by omega, ys, q, h1, by simp, rfl⟩
      · exact .inr (.inl ⟨rfl, .inr ⟨by omega, by omega, h1⟩⟩)
      · exact .inr (.inr rfl)
theorem spansRead_f0 (s : ByteArray) : ∃ (L : List PFnWindowsRead.S32) (z d : Int), PFnWindowsRead.spec_CodSpansRead.f 20000 0 s = some (L, z, d) ∧ ((d = 0 ∧ 4 ≤ s.size ∧ L = [to32 gSp] ∧ z = 4) ∨ (d = 1 ∧ s.size < 4)) := by
  unfold PFnWindowsRead.spec_CodSpansRead.f
  by_cases h4 : s.size < 4
  · have := num_badk s 4 20000 h4
    rw [show ((4 : Nat) : Int) = 4 from rfl] at this
    rw [this]
    simp only [Option.bind_some]
    rw [if_neg (by decide)]
    exact ⟨_, _, _, rfl, .inr ⟨rfl, h4⟩⟩
  · have hnum := num_fk s 4 20000 (by omega) (by omega) (by omega)
    rw [show ((4 : Nat) : Int) = 4 from rfl] at hnum
    rw [hnum]
    simp only [Option.bind_some, if_true]
    exact ⟨_, _, _, rfl, .inl ⟨rfl, by omega, rfl, rfl⟩⟩
theorem C32_to {w : World} {A : Option Addr} {n : Nat} {l : List PFnWindowOne.S23} (h : Kd.C PFnWindowsRead.k32 w A n (l.map to32)) : Kd.C PFnWindowOne.k32 w A n (l.map toS) := by
  obtain ⟨h1, h2, h3⟩ := h
  refine ⟨by rw [List.length_map] at h1 ⊢; exact h1, h2, fun hn => ?_⟩
  obtain ⟨ad, e, hc⟩ := h3 hn
  refine ⟨ad, e, fun j p hj => ?_⟩
  rw [List.getElem?_map] at hj
  obtain ⟨x, hx, rfl⟩ := Option.map_eq_some_iff.1 hj
  obtain ⟨c, hl, hK, hcell⟩ := hc j (to32 x) (by rw [List.getElem?_map, hx]; rfl)
  refine ⟨c, hl, ?_, hcell⟩
  obtain rfl := PFnWindowsRead.k32_open hK
  exact PFnWindowOne.k32_mk w (toS x)
end Go.Proofs.YtgdbeiadlgkedaaGreatDoor
set_option linter.unusedVariables false
set_option linter.unusedSimpArgs false
namespace Go.Proofs.YtgdbeiadlgkedaaGreatDoor
open Go.RowKit PFnWindowOne Go.Proofs.YtgdbeiadlgkedaaGreatDoorW.PrintWords
def kOf (b : Bool) : Int := if b then 1 else 0
theorem kind_any (b : Bool) (w : World) : Calls Tryz.prog 21 #[.bool b] w fun e w' => e = .returned (.int .i64 (kOf b)) ∧ w = w' := by
  cases b
  · go_enter Tryz.func21, Tryz.ntmps21
    go_wp2
    go_ret
    exact ⟨rfl, rfl⟩
  · go_enter Tryz.func21, Tryz.ntmps21
    go_wp2
    go_ret
    exact ⟨rfl, rfl⟩
theorem ne_emptyZ {s : ByteArray} (h : s.data.toList ≠ []) : ¬ s = ⟨#[]⟩ ∧ s.toList.isEmpty = false := by
  refine ⟨fun e => h (by rw [e]), ?_⟩
  rw [ByteArray.toList_eq]
  cases hs : s.data.toList with
  | nil => exact absurd hs h
  | cons a b => rfl
end Go.Proofs.YtgdbeiadlgkedaaGreatDoor
set_option linter.unusedVariables false
set_option linter.unusedSimpArgs false
namespace Go.Proofs.YtgdbeiadlgkedaaGreatDoor
open Go.RowKit PFnWindowOne Go.Proofs.YtgdbeiadlgkedaaGreatDoorW.PrintWords
theorem len_data (t : ByteArray) : t.data.toList.length = t.size := by rw [Array.length_toList]; rfl
theorem spans_said (b : Bool) (t : ByteArray) (h : t.size ≤ 400) :
    (∃ (ys : List S23) (z : Nat), ys.length ≤ 10000 ∧ (∀ W, Calls Tryz.prog 28 #[.int .i64 (kOf b), .string t] W fun e w' => ∃ (v : Value), e = .returned (.tuple #[v, .int .i64 (z : Nat), .int .i64 0]) ∧ Kd.R PFnWindowsRead.k32 32 w' W.heap.size (fun _ => True) v (ys.map to32) ∧ Below W.heap.size W w') ∧
      4 ≤ t.size ∧ ((b = false ∧ ys = [gSp] ∧ z = 4) ∨ (b = true ∧ nWins t.data.toList ≤ 10000 ∧ ∃ q, z = 4 + q ∧ rdWins (nWins t.data.toList) (t.data.toList.drop 4) = some (ys, q)))) ∨
    ((∀ W, Calls Tryz.prog 28 #[.int .i64 (kOf b), .string t] W fun e w' => ∃ (v : Value) (z : Int), e = .returned (.tuple #[v, .int .i64 z, .int .i64 1]) ∧ Below W.heap.size W w') ∧ (t.size < 4 ∨ (4 ≤ t.size ∧ b = true ∧ nWins t.data.toList ≤ 10000 ∧ rdWins (nWins t.data.toList) (t.data.toList.drop 4) = none))) ∨
    (∀ W, Calls Tryz.prog 28 #[.int .i64 (kOf b), .string t] W fun e w' => ∃ (v : Value) (z : Int), e = .returned (.tuple #[v, .int .i64 z, .int .i64 2]) ∧ Below W.heap.size W w') := by
  cases b with
  | false =>
    obtain ⟨L, z, d, hf, hc⟩ := spansRead_f0 t
    have hC := fun W => PFnWindowsRead.spec_CodSpansRead.calls 20000 0 t L z d W hf
    rcases hc with ⟨rfl, h4, rfl, rfl⟩ | ⟨rfl, h4⟩
    · exact .inl ⟨[gSp], 4, by decide, hC, h4, .inl ⟨rfl, rfl, rfl⟩⟩
    · exact .inr (.inl ⟨fun W => (hC W).mono (by rintro e w' ⟨v, rfl, _, hb⟩; exact ⟨v, _, rfl, hb⟩), .inl h4⟩)
  | true =>
    obtain ⟨L, z, d, hf, hc⟩ := spansRead_f1 t h
    have hC := fun W => PFnWindowsRead.spec_CodSpansRead.calls 20000 1 t L z d W hf
    rcases hc with ⟨rfl, h4, hn, ys, q, hr, rfl, rfl⟩ | ⟨rfl, h4⟩ | rfl
    · have hl := (rdWins_f0 _ _ ys q hr).1
      exact .inl ⟨ys, 4 + q, by omega, hC, h4, .inr ⟨rfl, hn, q, rfl, hr⟩⟩
    · refine .inr (.inl ⟨fun W => (hC W).mono (by rintro e w' ⟨v, rfl, _, hb⟩; exact ⟨v, _, rfl, hb⟩), ?_⟩)
      rcases h4 with h4 | ⟨h4, hn, hr⟩
      · exact .inl h4
      · exact .inr ⟨h4, rfl, hn, hr⟩
    · exact .inr (.inr fun W => (hC W).mono (by rintro e w' ⟨v, rfl, _, hb⟩; exact ⟨v, _, rfl, hb⟩))
end Go.Proofs.YtgdbeiadlgkedaaGreatDoor
