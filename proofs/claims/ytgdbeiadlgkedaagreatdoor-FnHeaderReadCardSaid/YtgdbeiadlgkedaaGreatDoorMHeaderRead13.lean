/- Contracts and plain laws, several texts in one. -/
import Derived.Test.YtgdbeiadlgkedaaGreatDoorMHeaderRead10
import Derived.Test.YtgdbeiadlgkedaaGreatDoorMHeaderRead11
set_option linter.unusedVariables false
set_option linter.unusedSimpArgs false
namespace Go.Proofs.YtgdbeiadlgkedaaGreatDoor
open Go.RowKit PFnWindowOne Go.Proofs.YtgdbeiadlgkedaaGreatDoorW.PrintWords
theorem decGlob_row (a : Option Addr) (r g : Nat) (l : List UInt8) (i : Nat) (w : World) (h : Rd r g l i w) (hi : i + 4 ≤ l.length) :
    Calls Tryz.prog 156 #[.pointer a, rdI r] w fun e w' => ∃ gb, e = .returned (.tuple #[.slice (some ⟨gb, 0, none⟩) 1 1, .nilIface]) ∧ IfRow gb 1 [gSp] w' ∧ [gSp].length = 1 ∧ w.heap.size ≤ gb ∧ w.grownBy w' (some r) ∧ Rd r g l (i + 4) w' := by
  have HC := Lib.hid (decI32_ok r g l i w h hi)
  clear h hi
  go_enter Tryz.func156, Tryz.ntmps156
  go_wp2_with (first
    | (go_at_call 84; go_loud (refine HC.out.mono ?_; rintro e_ w1 ⟨rfl, hg, hr⟩; have H1 := Lib.hid (And.intro hg hr); clear hg hr))
    | (go_at_call 158; go_loud (refine (single_any _).mono ?_; rintro e_ w2 ⟨rfl, hw⟩; have H2 := Lib.hid (show IfRow w1.heap.size 1 [gSp] w2 ∧ [gSp].length = 1 ∧ w.heap.size ≤ w1.heap.size ∧ w.grownBy w2 (some r) ∧ Rd r g l (i + 4) w2 by
        rw [hw]
        refine ⟨⟨#[.iface 192 (.agg #[])], heap_alloc_new w1 _, rfl, fun j x hj => ?_⟩, rfl, H1.out.1.size, grown_alloc H1.out.1 _, H1.out.2.alloc _⟩
        cases j with
        | zero => obtain rfl : gSp = x := by simpa using hj
                  rfl
        | succ j => simp at hj); clear hw)))
  go_ret2
  exact ⟨_, rfl, H2.out.1, (by first | exact trivial | rfl), H2.out.2.2⟩
theorem err_ne {ev : Value} {X : World} {b : Nat} {u0 u3 u4 : Int} {u1 u2 : Bool} (h : Err ev X) (hb : X.heap[b]? = some (.cells #[.int .u8 u0, .bool u1, .bool u2, .int .i64 u3, .int .i64 u4] 119 (0, 0))) : ∃ (a : Addr) (s : ByteArray), ev = .iface 234 (.pointer (some a)) ∧ X.cell? a = some (.string s) ∧ s.data.toList ≠ [] ∧ a.block ≠ b := by
  obtain ⟨a, s, e1, e2, e3⟩ := h
  refine ⟨a, s, e1, e2, e3, fun e => ?_⟩
  have e4 : X.heap[a.block]? = some (.cells #[.int .u8 u0, .bool u1, .bool u2, .int .i64 u3, .int .i64 u4] 119 (0, 0)) := by rw [e]; exact hb
  simp [World.cell?, e4] at e2
  have := List.mem_of_getElem? e2.2
  simp at this
theorem fell_set {w X : World} {b r g : Nat} {l : List UInt8} {ev : Value} (hZ : X.heap[b]? = some (.cells zP 119 (0, 0))) (hb : w.heap.size ≤ b) (hF : Fell r g l w X ev) (hrl : r < w.heap.size) (hgl : g < w.heap.size) (v0 v1 v2 v3 v4 : Value) :
    (((((X.setCell ⟨b, 0, none⟩ v0).setCell ⟨b, 1, none⟩ v1).setCell ⟨b, 2, none⟩ v2).setCell ⟨b, 3, none⟩ v3).setCell ⟨b, 4, none⟩ v4).heap[b]? = some (.cells #[v0, v1, v2, v3, v4] 119 (0, 0)) ∧ Fell r g l w (((((X.setCell ⟨b, 0, none⟩ v0).setCell ⟨b, 1, none⟩ v1).setCell ⟨b, 2, none⟩ v2).setCell ⟨b, 3, none⟩ v3).setCell ⟨b, 4, none⟩ v4) ev := by
  obtain ⟨hg, he, i', hr⟩ := hF
  obtain ⟨h1, h2, h3⟩ := pane_set hZ hb hg hr hrl hgl v0 v1 v2 v3 v4
  obtain ⟨a, s, e1, e2, e3, e4⟩ := err_ne he hZ
  refine ⟨h1, h2, ⟨a, s, e1, (World.cell?_of_block (a := a) ?_).trans e2, e3⟩, i', h3⟩
  exact (Below.heap_setCell _ _ _ _ e4).trans ((Below.heap_setCell _ _ _ _ e4).trans ((Below.heap_setCell _ _ _ _ e4).trans ((Below.heap_setCell _ _ _ _ e4).trans (Below.heap_setCell _ _ _ _ e4))))
theorem set5_any {W : World} {b : Nat} (v0 v1 v2 v3 v4 : Value) : Below b W (((((W.setCell ⟨b, 0, none⟩ v0).setCell ⟨b, 1, none⟩ v1).setCell ⟨b, 2, none⟩ v2).setCell ⟨b, 3, none⟩ v3).setCell ⟨b, 4, none⟩ v4) := set5_below (Nat.le_refl _) v0 v1 v2 v3 v4
set_option maxHeartbeats 4000000 in
set_option maxRecDepth 100000 in
theorem onErr_any (a : Addr) (w : World) : Calls Tryz.prog 97 #[errV a] w fun e w' => e = .returned (.tuple #[.slice none 0 0, .int .i64 0, .agg #[.int .u8 3, .bool true, .bool true, .int .i64 0, .int .i64 0], errV a]) ∧ Below w.heap.size w w' := by
  have HZ := Lib.hid (heap_alloc_new w (.cells zP 119))
  have HB := Lib.hid (below_alloc (Below.refl w.heap.size w) (.cells zP 119))
  go_enter Tryz.func97, Tryz.ntmps97
  go_wp2_with (go_at_call 98; go_loud (refine (noPane_any _).mono ?_; rintro e_ w1 ⟨rfl, hb⟩; have hz := blk_below HZ.out hb; have HZ1 := Lib.hid hz; have HB1 := Lib.hid (below_then HB.out HB.out.size hb); obtain ⟨k0, k1, k2, k3, k4⟩ := laid5 hz; obtain ⟨g0, g1, g2, g3, g4⟩ := open5 hz; clear hb hz))
  have HF := Lib.hid (And.intro (set5 HZ1.out (.int .u8 3) (.bool true) (.bool true) (.int .i64 0) (.int .i64 0)) (HB1.out.trans (set5_any (W := w1) (b := w.heap.size) (.int .u8 3) (.bool true) (.bool true) (.int .i64 0) (.int .i64 0))))
  clear k0 k1 k2 k3 k4 g0 g1 g2 g3 g4
  generalize (((((w1.setCell ⟨w.heap.size, 0, none⟩ (.int .u8 3)).setCell ⟨w.heap.size, 1, none⟩ (.bool true)).setCell ⟨w.heap.size, 2, none⟩ (.bool true)).setCell ⟨w.heap.size, 3, none⟩ (.int .i64 0)).setCell ⟨w.heap.size, 4, none⟩ (.int .i64 0)) = X at HF ⊢
  obtain ⟨c0, c1, c2, c3, c4⟩ := laid5 HF.out.1
  exact bodyPost_ret (v := .tuple #[.slice none 0 0, .int .i64 0, .agg #[.int .u8 3, .bool true, .bool true, .int .i64 0, .int .i64 0], errV a]) (by simp [results, Tryz.results97, go_sem, c0, c1, c2, c3, c4]; try rfl) rfl ⟨rfl, HF.out.2⟩
set_option maxHeartbeats 8000000 in
set_option maxRecDepth 100000 in
theorem decHead_1_few (B : Nat) (pe pl : Addr) (a r g : Nat) (l : List UInt8) (w : World) (h : Rd r g l 0 w) (he : Env B pe pl w) (hBr : B ≤ r) (hB : B ≤ w.heap.size) (h8 : ¬ 0 + 8 ≤ l.length) :
    Calls Tryz.prog 54 #[.iface 199 (.pointer (some ⟨a, 0, none⟩)), rdI r] w fun e w' => ∃ ev, e = .returned (.tuple #[.slice none 0 0, .int .i64 0, .agg #[.int .u8 3, .bool true, .bool true, .int .i64 0, .int .i64 0], ev]) ∧ Fell r g l w w' ev := by
  have HRG := Lib.hid (And.intro h.lt h.ltg)
  have HZ := Lib.hid (heap_alloc_new w (.cells zP 119))
  have HE := Lib.hid (And.intro he (And.intro hBr hB))
  have hR0 : Rd r g l 0 (w.alloc (.cells zP 119)) := h.alloc _
  have hE0 : Env B pe pl (w.alloc (.cells zP 119)) := he.below ((Below.refl B w).alloc hB _)
  have HT := Lib.hid (decTime_bad B pe pl r g l 0 _ hR0 hE0 hBr h8)
  clear h he hBr hB h8 hR0 hE0
  go_enter Tryz.func54, Tryz.ntmps54
  go_wp2_with (first
    | (go_at_call 83; go_loud (refine HT.out.mono ?_; rintro e_ w1 ⟨ev, rfl, h1⟩; obtain ⟨ea, es, rfl, hes⟩ : ∃ ea es, ev = errV ea ∧ Hid (w1.cell? ea = some (.string es) ∧ es.data.toList ≠ []) := (by obtain ⟨ea, es, e1, e2, e3⟩ := h1.2.1; exact ⟨ea, es, e1, Lib.hid ⟨e2, e3⟩⟩); have HZ1 := Lib.hid ((h1.1.block _ (blk_lt HZ.out) (by intro e; cases e; have := HRG.out.1; omega)).trans HZ.out); have HZE := HZ1; have HFE := Lib.hid (show Fell r g l w w1 (errV ea) from ⟨grown_trans (grown_alloc (grown_refl w) _) h1.1, h1.2.1, h1.2.2⟩); clear h1))
    | (go_at_call 97; go_loud (refine (onErr_any ea w1).mono ?_; rintro e_ w8 ⟨rfl, hb⟩; have hz8 := blk_below HZE.out hb; have HZ8 := Lib.hid hz8; have HF8 := Lib.hid (show Fell r g l w w8 (errV ea) from ⟨grown_lower HFE.out.1 hb, HFE.out.2.1.kept (fun k hk => hb.block k hk), by obtain ⟨i', h⟩ := HFE.out.2.2; exact ⟨i', h.below hb⟩⟩); obtain ⟨k0, k1, k2, k3, k4⟩ := laid5 hz8; obtain ⟨g0, g1, g2, g3, g4⟩ := open5 hz8; clear hb hz8)))
  have HF := Lib.hid (fell_set HZ8.out (Nat.le_refl _) HF8.out HRG.out.1 HRG.out.2 (.int .u8 3) (.bool true) (.bool true) (.int .i64 0) (.int .i64 0))
  clear k0 k1 k2 k3 k4 g0 g1 g2 g3 g4
  generalize (((((w8.setCell ⟨w.heap.size, 0, none⟩ (.int .u8 3)).setCell ⟨w.heap.size, 1, none⟩ (.bool true)).setCell ⟨w.heap.size, 2, none⟩ (.bool true)).setCell ⟨w.heap.size, 3, none⟩ (.int .i64 0)).setCell ⟨w.heap.size, 4, none⟩ (.int .i64 0)) = X at HF ⊢
  obtain ⟨c0, c1, c2, c3, c4⟩ := laid5 HF.out.1
  exact bodyPost_ret (v := .tuple #[.slice none 0 0, .int .i64 0, .agg #[.int .u8 3, .bool true, .bool true, .int .i64 0, .int .i64 0], errV ea]) (by simp [results, Tryz.results54, go_sem, c0, c1, c2, c3, c4]; try rfl) rfl ⟨errV ea, rfl, HF.out.2⟩
set_option maxHeartbeats 8000000 in
set_option maxRecDepth 100000 in
theorem decHead_0_few (B : Nat) (pe pl : Addr) (a r g : Nat) (l : List UInt8) (w : World) (h : Rd r g l 0 w) (he : Env B pe pl w) (hBr : B ≤ r) (hB : B ≤ w.heap.size) (h8 : ¬ 0 + 8 ≤ l.length) :
    Calls Tryz.prog 54 #[.iface 197 (.pointer (some ⟨a, 0, none⟩)), rdI r] w fun e w' => ∃ ev, e = .returned (.tuple #[.slice none 0 0, .int .i64 0, .agg #[.int .u8 3, .bool true, .bool true, .int .i64 0, .int .i64 0], ev]) ∧ Fell r g l w w' ev := by
  have HRG := Lib.hid (And.intro h.lt h.ltg)
  have HZ := Lib.hid (heap_alloc_new w (.cells zP 119))
  have HE := Lib.hid (And.intro he (And.intro hBr hB))
  have hR0 : Rd r g l 0 (w.alloc (.cells zP 119)) := h.alloc _
  have hE0 : Env B pe pl (w.alloc (.cells zP 119)) := he.below ((Below.refl B w).alloc hB _)
  have HT := Lib.hid (decTime_bad B pe pl r g l 0 _ hR0 hE0 hBr h8)
  clear h he hBr hB h8 hR0 hE0
  go_enter Tryz.func54, Tryz.ntmps54
  go_wp2_with (first
    | (go_at_call 83; go_loud (refine HT.out.mono ?_; rintro e_ w1 ⟨ev, rfl, h1⟩; obtain ⟨ea, es, rfl, hes⟩ : ∃ ea es, ev = errV ea ∧ Hid (w1.cell? ea = some (.string es) ∧ es.data.toList ≠ []) := (by obtain ⟨ea, es, e1, e2, e3⟩ := h1.2.1; exact ⟨ea, es, e1, Lib.hid ⟨e2, e3⟩⟩); have HZ1 := Lib.hid ((h1.1.block _ (blk_lt HZ.out) (by intro e; cases e; have := HRG.out.1; omega)).trans HZ.out); have HZE := HZ1; have HFE := Lib.hid (show Fell r g l w w1 (errV ea) from ⟨grown_trans (grown_alloc (grown_refl w) _) h1.1, h1.2.1, h1.2.2⟩); clear h1))
    | (go_at_call 97; go_loud (refine (onErr_any ea w1).mono ?_; rintro e_ w8 ⟨rfl, hb⟩; have hz8 := blk_below HZE.out hb; have HZ8 := Lib.hid hz8; have HF8 := Lib.hid (show Fell r g l w w8 (errV ea) from ⟨grown_lower HFE.out.1 hb, HFE.out.2.1.kept (fun k hk => hb.block k hk), by obtain ⟨i', h⟩ := HFE.out.2.2; exact ⟨i', h.below hb⟩⟩); obtain ⟨k0, k1, k2, k3, k4⟩ := laid5 hz8; obtain ⟨g0, g1, g2, g3, g4⟩ := open5 hz8; clear hb hz8)))
  have HF := Lib.hid (fell_set HZ8.out (Nat.le_refl _) HF8.out HRG.out.1 HRG.out.2 (.int .u8 3) (.bool true) (.bool true) (.int .i64 0) (.int .i64 0))
  clear k0 k1 k2 k3 k4 g0 g1 g2 g3 g4
  generalize (((((w8.setCell ⟨w.heap.size, 0, none⟩ (.int .u8 3)).setCell ⟨w.heap.size, 1, none⟩ (.bool true)).setCell ⟨w.heap.size, 2, none⟩ (.bool true)).setCell ⟨w.heap.size, 3, none⟩ (.int .i64 0)).setCell ⟨w.heap.size, 4, none⟩ (.int .i64 0)) = X at HF ⊢
  obtain ⟨c0, c1, c2, c3, c4⟩ := laid5 HF.out.1
  exact bodyPost_ret (v := .tuple #[.slice none 0 0, .int .i64 0, .agg #[.int .u8 3, .bool true, .bool true, .int .i64 0, .int .i64 0], errV ea]) (by simp [results, Tryz.results54, go_sem, c0, c1, c2, c3, c4]; try rfl) rfl ⟨errV ea, rfl, HF.out.2⟩
set_option maxHeartbeats 8000000 in
set_option maxRecDepth 100000 in
theorem decHead_1_win (B : Nat) (pe pl : Addr) (a r g : Nat) (l : List UInt8) (w : World) (h : Rd r g l 0 w) (he : Env B pe pl w) (hBr : B ≤ r) (hB : B ≤ w.heap.size) (h8 : 0 + 8 ≤ l.length)
    (hw : ∀ (a : Option Addr) (W : World), Rd r g l (0 + 8) W → Env B pe pl W → B ≤ r → B ≤ W.heap.size → Calls Tryz.prog 159 #[.pointer a, rdI r] W fun e w' => ∃ v ev, e = .returned (.tuple #[v, ev]) ∧ Fell r g l W w' ev) :
    Calls Tryz.prog 54 #[.iface 199 (.pointer (some ⟨a, 0, none⟩)), rdI r] w fun e w' => ∃ ev, e = .returned (.tuple #[.slice none 0 0, .int .i64 0, .agg #[.int .u8 3, .bool true, .bool true, .int .i64 0, .int .i64 0], ev]) ∧ Fell r g l w w' ev := by
  have HRG := Lib.hid (And.intro h.lt h.ltg)
  have HZ := Lib.hid (heap_alloc_new w (.cells zP 119))
  have HE := Lib.hid (And.intro he (And.intro hBr hB))
  have hR0 : Rd r g l 0 (w.alloc (.cells zP 119)) := h.alloc _
  have hE0 : Env B pe pl (w.alloc (.cells zP 119)) := he.below ((Below.refl B w).alloc hB _)
  have HT := Lib.hid (decTime_ok r g l 0 _ hR0 h8)
  have HW := Lib.hid hw
  have qm := mthF_1
  clear h he hBr hB h8 hR0 hE0 hw
  go_enter Tryz.func54, Tryz.ntmps54
  go_wp2_with (first
    | (go_at_call 83; go_loud (refine HT.out.mono ?_; rintro e_ w1 ⟨rfl, hg, hr⟩; have HZ1 := Lib.hid ((hg.block _ (blk_lt HZ.out) (by intro e; cases e; have := HRG.out.1; omega)).trans HZ.out); have H1 := Lib.hid (And.intro (grown_trans (grown_alloc (grown_refl w) _) hg) hr); clear hg hr))
    | (go_at_call 159; go_loud (refine (HW.out (some ⟨a, 0, none⟩) w1 H1.out.2 (HE.out.1.below (grown_below H1.out.1 HE.out.2.2 HE.out.2.1)) HE.out.2.1 (Nat.le_trans HE.out.2.2 H1.out.1.size)).mono ?_; rintro e_ w2 ⟨v, ev, rfl, h1⟩; obtain ⟨ea, es, rfl, hes⟩ : ∃ ea es, ev = errV ea ∧ Hid (w2.cell? ea = some (.string es) ∧ es.data.toList ≠ []) := (by obtain ⟨ea, es, e1, e2, e3⟩ := h1.2.1; exact ⟨ea, es, e1, Lib.hid ⟨e2, e3⟩⟩); have HZ2 := Lib.hid ((h1.1.block _ (blk_lt HZ1.out) (by intro e; cases e; have := HRG.out.1; omega)).trans HZ1.out); have HZE := HZ2; have HFE := Lib.hid (show Fell r g l w w2 (errV ea) from ⟨grown_trans H1.out.1 h1.1, h1.2.1, h1.2.2⟩); clear h1))
    | (go_at_call 97; go_loud (refine (onErr_any ea w2).mono ?_; rintro e_ w8 ⟨rfl, hb⟩; have hz8 := blk_below HZE.out hb; have HZ8 := Lib.hid hz8; have HF8 := Lib.hid (show Fell r g l w w8 (errV ea) from ⟨grown_lower HFE.out.1 hb, HFE.out.2.1.kept (fun k hk => hb.block k hk), by obtain ⟨i', h⟩ := HFE.out.2.2; exact ⟨i', h.below hb⟩⟩); obtain ⟨k0, k1, k2, k3, k4⟩ := laid5 hz8; obtain ⟨g0, g1, g2, g3, g4⟩ := open5 hz8; clear hb hz8)))
  have HF := Lib.hid (fell_set HZ8.out (Nat.le_refl _) HF8.out HRG.out.1 HRG.out.2 (.int .u8 3) (.bool true) (.bool true) (.int .i64 0) (.int .i64 0))
  clear k0 k1 k2 k3 k4 g0 g1 g2 g3 g4
  generalize (((((w8.setCell ⟨w.heap.size, 0, none⟩ (.int .u8 3)).setCell ⟨w.heap.size, 1, none⟩ (.bool true)).setCell ⟨w.heap.size, 2, none⟩ (.bool true)).setCell ⟨w.heap.size, 3, none⟩ (.int .i64 0)).setCell ⟨w.heap.size, 4, none⟩ (.int .i64 0)) = X at HF ⊢
  obtain ⟨c0, c1, c2, c3, c4⟩ := laid5 HF.out.1
  exact bodyPost_ret (v := .tuple #[.slice none 0 0, .int .i64 0, .agg #[.int .u8 3, .bool true, .bool true, .int .i64 0, .int .i64 0], errV ea]) (by simp [results, Tryz.results54, go_sem, c0, c1, c2, c3, c4]; try rfl) rfl ⟨errV ea, rfl, HF.out.2⟩
set_option maxHeartbeats 8000000 in
set_option maxRecDepth 100000 in
theorem decHead_0_win (B : Nat) (pe pl : Addr) (a r g : Nat) (l : List UInt8) (w : World) (h : Rd r g l 0 w) (he : Env B pe pl w) (hBr : B ≤ r) (hB : B ≤ w.heap.size) (h8 : 0 + 8 ≤ l.length)
    (hw : ∀ (a : Option Addr) (W : World), Rd r g l (0 + 8) W → Env B pe pl W → B ≤ r → B ≤ W.heap.size → Calls Tryz.prog 156 #[.pointer a, rdI r] W fun e w' => ∃ v ev, e = .returned (.tuple #[v, ev]) ∧ Fell r g l W w' ev) :
    Calls Tryz.prog 54 #[.iface 197 (.pointer (some ⟨a, 0, none⟩)), rdI r] w fun e w' => ∃ ev, e = .returned (.tuple #[.slice none 0 0, .int .i64 0, .agg #[.int .u8 3, .bool true, .bool true, .int .i64 0, .int .i64 0], ev]) ∧ Fell r g l w w' ev := by
  have HRG := Lib.hid (And.intro h.lt h.ltg)
  have HZ := Lib.hid (heap_alloc_new w (.cells zP 119))
  have HE := Lib.hid (And.intro he (And.intro hBr hB))
  have hR0 : Rd r g l 0 (w.alloc (.cells zP 119)) := h.alloc _
  have hE0 : Env B pe pl (w.alloc (.cells zP 119)) := he.below ((Below.refl B w).alloc hB _)
  have HT := Lib.hid (decTime_ok r g l 0 _ hR0 h8)
  have HW := Lib.hid hw
  have qm := mthF_0
  clear h he hBr hB h8 hR0 hE0 hw
  go_enter Tryz.func54, Tryz.ntmps54
  go_wp2_with (first
    | (go_at_call 83; go_loud (refine HT.out.mono ?_; rintro e_ w1 ⟨rfl, hg, hr⟩; have HZ1 := Lib.hid ((hg.block _ (blk_lt HZ.out) (by intro e; cases e; have := HRG.out.1; omega)).trans HZ.out); have H1 := Lib.hid (And.intro (grown_trans (grown_alloc (grown_refl w) _) hg) hr); clear hg hr))
    | (go_at_call 156; go_loud (refine (HW.out (some ⟨a, 0, none⟩) w1 H1.out.2 (HE.out.1.below (grown_below H1.out.1 HE.out.2.2 HE.out.2.1)) HE.out.2.1 (Nat.le_trans HE.out.2.2 H1.out.1.size)).mono ?_; rintro e_ w2 ⟨v, ev, rfl, h1⟩; obtain ⟨ea, es, rfl, hes⟩ : ∃ ea es, ev = errV ea ∧ Hid (w2.cell? ea = some (.string es) ∧ es.data.toList ≠ []) := (by obtain ⟨ea, es, e1, e2, e3⟩ := h1.2.1; exact ⟨ea, es, e1, Lib.hid ⟨e2, e3⟩⟩); have HZ2 := Lib.hid ((h1.1.block _ (blk_lt HZ1.out) (by intro e; cases e; have := HRG.out.1; omega)).trans HZ1.out); have HZE := HZ2; have HFE := Lib.hid (show Fell r g l w w2 (errV ea) from ⟨grown_trans H1.out.1 h1.1, h1.2.1, h1.2.2⟩); clear h1))
    | (go_at_call 97; go_loud (refine (onErr_any ea w2).mono ?_; rintro e_ w8 ⟨rfl, hb⟩; have hz8 := blk_below HZE.out hb; have HZ8 := Lib.hid hz8; have HF8 := Lib.hid (show Fell r g l w w8 (errV ea) from ⟨grown_lower HFE.out.1 hb, HFE.out.2.1.kept (fun k hk => hb.block k hk), by obtain ⟨i', h⟩ := HFE.out.2.2; exact ⟨i', h.below hb⟩⟩); obtain ⟨k0, k1, k2, k3, k4⟩ := laid5 hz8; obtain ⟨g0, g1, g2, g3, g4⟩ := open5 hz8; clear hb hz8)))
  have HF := Lib.hid (fell_set HZ8.out (Nat.le_refl _) HF8.out HRG.out.1 HRG.out.2 (.int .u8 3) (.bool true) (.bool true) (.int .i64 0) (.int .i64 0))
  clear k0 k1 k2 k3 k4 g0 g1 g2 g3 g4
  generalize (((((w8.setCell ⟨w.heap.size, 0, none⟩ (.int .u8 3)).setCell ⟨w.heap.size, 1, none⟩ (.bool true)).setCell ⟨w.heap.size, 2, none⟩ (.bool true)).setCell ⟨w.heap.size, 3, none⟩ (.int .i64 0)).setCell ⟨w.heap.size, 4, none⟩ (.int .i64 0)) = X at HF ⊢
  obtain ⟨c0, c1, c2, c3, c4⟩ := laid5 HF.out.1
  exact bodyPost_ret (v := .tuple #[.slice none 0 0, .int .i64 0, .agg #[.int .u8 3, .bool true, .bool true, .int .i64 0, .int .i64 0], errV ea]) (by simp [results, Tryz.results54, go_sem, c0, c1, c2, c3, c4]; try rfl) rfl ⟨errV ea, rfl, HF.out.2⟩
set_option maxHeartbeats 8000000 in
set_option maxRecDepth 100000 in
theorem decHead_1_pane (B : Nat) (pe pl : Addr) (a r g : Nat) (l : List UInt8) (w : World) (h : Rd r g l 0 w) (he : Env B pe pl w) (hBr : B ≤ r) (hB : B ≤ w.heap.size) (h8 : 0 + 8 ≤ l.length) (n : Nat) (ys : List S23) (p : Nat)
    (hw : ∀ (a : Option Addr) (W : World), Rd r g l (0 + 8) W → Env B pe pl W → B ≤ r → B ≤ W.heap.size → Calls Tryz.prog 159 #[.pointer a, rdI r] W fun e w' => ∃ gb, e = .returned (.tuple #[.slice (some ⟨gb, 0, none⟩) n n, .nilIface]) ∧ IfRow gb n ys w' ∧ ys.length = n ∧ W.heap.size ≤ gb ∧ W.grownBy w' (some r) ∧ Rd r g l p w') (hp : rdPane (l.drop p) = .wrong) :
    Calls Tryz.prog 54 #[.iface 199 (.pointer (some ⟨a, 0, none⟩)), rdI r] w fun e w' => ∃ ev, e = .returned (.tuple #[.slice none 0 0, .int .i64 0, .agg #[.int .u8 3, .bool true, .bool true, .int .i64 0, .int .i64 0], ev]) ∧ Fell r g l w w' ev := by
  have HRG := Lib.hid (And.intro h.lt h.ltg)
  have HZ := Lib.hid (heap_alloc_new w (.cells zP 119))
  have HE := Lib.hid (And.intro he (And.intro hBr hB))
  have hR0 : Rd r g l 0 (w.alloc (.cells zP 119)) := h.alloc _
  have hE0 : Env B pe pl (w.alloc (.cells zP 119)) := he.below ((Below.refl B w).alloc hB _)
  have HT := Lib.hid (decTime_ok r g l 0 _ hR0 h8)
  have HW := Lib.hid hw
  have HP := Lib.hid hp
  have qm := mthF_1
  clear h he hBr hB h8 hR0 hE0 hw hp
  go_enter Tryz.func54, Tryz.ntmps54
  go_wp2_with (first
    | (go_at_call 83; go_loud (refine HT.out.mono ?_; rintro e_ w1 ⟨rfl, hg, hr⟩; have HZ1 := Lib.hid ((hg.block _ (blk_lt HZ.out) (by intro e; cases e; have := HRG.out.1; omega)).trans HZ.out); have H1 := Lib.hid (And.intro (grown_trans (grown_alloc (grown_refl w) _) hg) hr); clear hg hr))
    | (go_at_call 159; go_loud (refine (HW.out (some ⟨a, 0, none⟩) w1 H1.out.2 (HE.out.1.below (grown_below H1.out.1 HE.out.2.2 HE.out.2.1)) HE.out.2.1 (Nat.le_trans HE.out.2.2 H1.out.1.size)).mono ?_; rintro e_ w2 ⟨gb, rfl, hrow, hyl, hgb, hg, hr⟩; have HZ2 := Lib.hid ((hg.block _ (blk_lt HZ1.out) (by intro e; cases e; have := HRG.out.1; omega)).trans HZ1.out); have HR2 := Lib.hid (And.intro hrow (And.intro hyl (show w.heap.size ≤ gb from Nat.le_trans H1.out.1.size hgb))); have H2 := Lib.hid (And.intro (grown_trans H1.out.1 hg) hr); clear hrow hyl hgb hg hr))
    | (go_at_call 85; go_loud (refine (decPane_wrong B pe pl r g l p w2 H2.out.2 (HE.out.1.below (grown_below H2.out.1 HE.out.2.2 HE.out.2.1)) HE.out.2.1 (Nat.le_trans HE.out.2.2 H2.out.1.size) HP.out).mono ?_; rintro e_ w3 ⟨ev, rfl, h1⟩; obtain ⟨ea, es, rfl, hes⟩ : ∃ ea es, ev = errV ea ∧ Hid (w3.cell? ea = some (.string es) ∧ es.data.toList ≠ []) := (by obtain ⟨ea, es, e1, e2, e3⟩ := h1.2.1; exact ⟨ea, es, e1, Lib.hid ⟨e2, e3⟩⟩); have HZ3 := Lib.hid ((h1.1.block _ (blk_lt HZ2.out) (by intro e; cases e; have := HRG.out.1; omega)).trans HZ2.out); have HZE := Lib.hid (blk_alloc HZ3.out (.cells zP 119)); have HFE := Lib.hid (show Fell r g l w (w3.alloc (.cells zP 119)) (errV ea) from ⟨grown_alloc (grown_trans H2.out.1 h1.1) _, h1.2.1.kept (fun k hk => Below.heap_alloc _ _ k hk), by obtain ⟨i', h⟩ := h1.2.2; exact ⟨i', h.alloc _⟩⟩); clear h1))
    | (go_at_call 97; go_loud (refine (onErr_any ea (w3.alloc (.cells zP 119))).mono ?_; rintro e_ w8 ⟨rfl, hb⟩; have hz8 := blk_below HZE.out hb; have HZ8 := Lib.hid hz8; have HF8 := Lib.hid (show Fell r g l w w8 (errV ea) from ⟨grown_lower HFE.out.1 hb, HFE.out.2.1.kept (fun k hk => hb.block k hk), by obtain ⟨i', h⟩ := HFE.out.2.2; exact ⟨i', h.below hb⟩⟩); obtain ⟨k0, k1, k2, k3, k4⟩ := laid5 hz8; obtain ⟨g0, g1, g2, g3, g4⟩ := open5 hz8; clear hb hz8)))
  have HF := Lib.hid (fell_set HZ8.out (Nat.le_refl _) HF8.out HRG.out.1 HRG.out.2 (.int .u8 3) (.bool true) (.bool true) (.int .i64 0) (.int .i64 0))
  clear k0 k1 k2 k3 k4 g0 g1 g2 g3 g4
  generalize (((((w8.setCell ⟨w.heap.size, 0, none⟩ (.int .u8 3)).setCell ⟨w.heap.size, 1, none⟩ (.bool true)).setCell ⟨w.heap.size, 2, none⟩ (.bool true)).setCell ⟨w.heap.size, 3, none⟩ (.int .i64 0)).setCell ⟨w.heap.size, 4, none⟩ (.int .i64 0)) = X at HF ⊢
  obtain ⟨c0, c1, c2, c3, c4⟩ := laid5 HF.out.1
  exact bodyPost_ret (v := .tuple #[.slice none 0 0, .int .i64 0, .agg #[.int .u8 3, .bool true, .bool true, .int .i64 0, .int .i64 0], errV ea]) (by simp [results, Tryz.results54, go_sem, c0, c1, c2, c3, c4]; try rfl) rfl ⟨errV ea, rfl, HF.out.2⟩
set_option maxHeartbeats 8000000 in
set_option maxRecDepth 100000 in
theorem decHead_0_pane (B : Nat) (pe pl : Addr) (a r g : Nat) (l : List UInt8) (w : World) (h : Rd r g l 0 w) (he : Env B pe pl w) (hBr : B ≤ r) (hB : B ≤ w.heap.size) (h8 : 0 + 8 ≤ l.length) (n : Nat) (ys : List S23) (p : Nat)
    (hw : ∀ (a : Option Addr) (W : World), Rd r g l (0 + 8) W → Env B pe pl W → B ≤ r → B ≤ W.heap.size → Calls Tryz.prog 156 #[.pointer a, rdI r] W fun e w' => ∃ gb, e = .returned (.tuple #[.slice (some ⟨gb, 0, none⟩) n n, .nilIface]) ∧ IfRow gb n ys w' ∧ ys.length = n ∧ W.heap.size ≤ gb ∧ W.grownBy w' (some r) ∧ Rd r g l p w') (hp : rdPane (l.drop p) = .wrong) :
    Calls Tryz.prog 54 #[.iface 197 (.pointer (some ⟨a, 0, none⟩)), rdI r] w fun e w' => ∃ ev, e = .returned (.tuple #[.slice none 0 0, .int .i64 0, .agg #[.int .u8 3, .bool true, .bool true, .int .i64 0, .int .i64 0], ev]) ∧ Fell r g l w w' ev := by
  have HRG := Lib.hid (And.intro h.lt h.ltg)
  have HZ := Lib.hid (heap_alloc_new w (.cells zP 119))
  have HE := Lib.hid (And.intro he (And.intro hBr hB))
  have hR0 : Rd r g l 0 (w.alloc (.cells zP 119)) := h.alloc _
  have hE0 : Env B pe pl (w.alloc (.cells zP 119)) := he.below ((Below.refl B w).alloc hB _)
  have HT := Lib.hid (decTime_ok r g l 0 _ hR0 h8)
  have HW := Lib.hid hw
  have HP := Lib.hid hp
  have qm := mthF_0
  clear h he hBr hB h8 hR0 hE0 hw hp
  go_enter Tryz.func54, Tryz.ntmps54
  go_wp2_with (first
    | (go_at_call 83; go_loud (refine HT.out.mono ?_; rintro e_ w1 ⟨rfl, hg, hr⟩; have HZ1 := Lib.hid ((hg.block _ (blk_lt HZ.out) (by intro e; cases e; have := HRG.out.1; omega)).trans HZ.out); have H1 := Lib.hid (And.intro (grown_trans (grown_alloc (grown_refl w) _) hg) hr); clear hg hr))
    | (go_at_call 156; go_loud (refine (HW.out (some ⟨a, 0, none⟩) w1 H1.out.2 (HE.out.1.below (grown_below H1.out.1 HE.out.2.2 HE.out.2.1)) HE.out.2.1 (Nat.le_trans HE.out.2.2 H1.out.1.size)).mono ?_; rintro e_ w2 ⟨gb, rfl, hrow, hyl, hgb, hg, hr⟩; have HZ2 := Lib.hid ((hg.block _ (blk_lt HZ1.out) (by intro e; cases e; have := HRG.out.1; omega)).trans HZ1.out); have HR2 := Lib.hid (And.intro hrow (And.intro hyl (show w.heap.size ≤ gb from Nat.le_trans H1.out.1.size hgb))); have H2 := Lib.hid (And.intro (grown_trans H1.out.1 hg) hr); clear hrow hyl hgb hg hr))
    | (go_at_call 85; go_loud (refine (decPane_wrong B pe pl r g l p w2 H2.out.2 (HE.out.1.below (grown_below H2.out.1 HE.out.2.2 HE.out.2.1)) HE.out.2.1 (Nat.le_trans HE.out.2.2 H2.out.1.size) HP.out).mono ?_; rintro e_ w3 ⟨ev, rfl, h1⟩; obtain ⟨ea, es, rfl, hes⟩ : ∃ ea es, ev = errV ea ∧ Hid (w3.cell? ea = some (.string es) ∧ es.data.toList ≠ []) := (by obtain ⟨ea, es, e1, e2, e3⟩ := h1.2.1; exact ⟨ea, es, e1, Lib.hid ⟨e2, e3⟩⟩); have HZ3 := Lib.hid ((h1.1.block _ (blk_lt HZ2.out) (by intro e; cases e; have := HRG.out.1; omega)).trans HZ2.out); have HZE := Lib.hid (blk_alloc HZ3.out (.cells zP 119)); have HFE := Lib.hid (show Fell r g l w (w3.alloc (.cells zP 119)) (errV ea) from ⟨grown_alloc (grown_trans H2.out.1 h1.1) _, h1.2.1.kept (fun k hk => Below.heap_alloc _ _ k hk), by obtain ⟨i', h⟩ := h1.2.2; exact ⟨i', h.alloc _⟩⟩); clear h1))
    | (go_at_call 97; go_loud (refine (onErr_any ea (w3.alloc (.cells zP 119))).mono ?_; rintro e_ w8 ⟨rfl, hb⟩; have hz8 := blk_below HZE.out hb; have HZ8 := Lib.hid hz8; have HF8 := Lib.hid (show Fell r g l w w8 (errV ea) from ⟨grown_lower HFE.out.1 hb, HFE.out.2.1.kept (fun k hk => hb.block k hk), by obtain ⟨i', h⟩ := HFE.out.2.2; exact ⟨i', h.below hb⟩⟩); obtain ⟨k0, k1, k2, k3, k4⟩ := laid5 hz8; obtain ⟨g0, g1, g2, g3, g4⟩ := open5 hz8; clear hb hz8)))
  have HF := Lib.hid (fell_set HZ8.out (Nat.le_refl _) HF8.out HRG.out.1 HRG.out.2 (.int .u8 3) (.bool true) (.bool true) (.int .i64 0) (.int .i64 0))
  clear k0 k1 k2 k3 k4 g0 g1 g2 g3 g4
  generalize (((((w8.setCell ⟨w.heap.size, 0, none⟩ (.int .u8 3)).setCell ⟨w.heap.size, 1, none⟩ (.bool true)).setCell ⟨w.heap.size, 2, none⟩ (.bool true)).setCell ⟨w.heap.size, 3, none⟩ (.int .i64 0)).setCell ⟨w.heap.size, 4, none⟩ (.int .i64 0)) = X at HF ⊢
  obtain ⟨c0, c1, c2, c3, c4⟩ := laid5 HF.out.1
  exact bodyPost_ret (v := .tuple #[.slice none 0 0, .int .i64 0, .agg #[.int .u8 3, .bool true, .bool true, .int .i64 0, .int .i64 0], errV ea]) (by simp [results, Tryz.results54, go_sem, c0, c1, c2, c3, c4]; try rfl) rfl ⟨errV ea, rfl, HF.out.2⟩
end Go.Proofs.YtgdbeiadlgkedaaGreatDoor
