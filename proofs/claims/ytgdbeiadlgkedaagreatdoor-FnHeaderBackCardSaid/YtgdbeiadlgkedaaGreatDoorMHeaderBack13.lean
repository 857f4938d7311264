/- Contracts and plain laws, several texts in one. -/
import Derived.Test.YtgdbeiadlgkedaaGreatDoorMHeaderBack9
import Derived.Test.YtgdbeiadlgkedaaGreatDoorMHeaderBack10
import Derived.Test.YtgdbeiadlgkedaaGreatDoorMHeaderBack11
import Derived.Deep.RegionHeld3
set_option linter.unusedVariables false
set_option linter.unusedSimpArgs false
namespace Go.Proofs.YtgdbeiadlgkedaaGreatDoor
open Go.RowKit Go.Proofs.YtgdbeiadlgkedaaGreatDoorW.PrintWords Go.Proofs.YtgdbeiadlgkedaaGreatDoorW.PrintLast Go.Proofs.YtgdbeiadlgkedaaGreatDoorW.PrintMore
theorem encPane_ok (B b : Nat) (t : Nat) (ht : t < 4) (f l : Bool) (i n : Int) (hok : t = 0 → n = -1 ∨ (i = 0 ∧ n = 0)) (l0 : List UInt8) (w : World) (h : Bf B b l0 w) (hlim : l0.length + 100 ≤ 140737488355328) :
    Calls Tryz.prog 70 #[.agg #[.int .u8 t, .bool f, .bool l, .int .i64 i, .int .i64 n], bfI b] w fun e w' => e = .returned .nilIface ∧ Bf B b (l0 ++ pbytes t f l i n) w' ∧ Below B w w' := by
  unfold pbytes
  by_cases c1 : (i = 0 ∧ n = 0) ∨ t = 3
  · rw [if_pos c1]
    by_cases hi : i = 0
    · by_cases hn : n = 0
      · exact encPane_a1 B b t ht f l i n hi hn l0 w h hlim
      · exact encPane_a3 B b t ht f l i n (by omega) hi hn l0 w h hlim
    · exact encPane_a2 B b t ht f l i n (by omega) hi l0 w h hlim
  · rw [if_neg c1]
    by_cases c2 : i = n ∨ t = 0
    · rw [if_pos c2]
      by_cases t0 : t = 0
      · have hn : n = -1 := by have := hok t0; omega
        by_cases hi : i = 0
        · exact encPane_b3 B b t ht f l i n t0 hi hn l0 w h hlim
        · by_cases hi1 : i = -1
          · exact encPane_b4 B b t ht f l i n t0 hi1 hn l0 w h hlim
          · exact encPane_b2 B b t ht f l i n t0 hi hi1 hn l0 w h hlim
      · exact encPane_b1 B b t ht f l i n (by omega) t0 (by omega) (by omega) l0 w h hlim
    · rw [if_neg c2]
      by_cases hi : i = 0
      · exact encPane_c2 B b t ht f l i n (by omega) (by omega) hi (by omega) l0 w h hlim
      · exact encPane_c1 B b t ht f l i n (by omega) (by omega) hi (by omega) l0 w h hlim
set_option maxHeartbeats 4000000 in
set_option maxRecDepth 100000 in
theorem pane_any (t : Nat) (f l : Bool) (i n : Int) (ht : t < 4) (w : World) :
    Calls Tryz.prog 53 #[.agg #[.int .i64 t, .bool f, .bool l, .int .i64 i, .int .i64 n]] w fun e w' => e = .returned (.agg #[.int .u8 t, .bool f, .bool l, .int .i64 i, .int .i64 n]) ∧ Below w.heap.size w w' := by
  have q1 : (t : Int) % 256 = (t : Int) := by omega
  go_enter Tryz.func53, Tryz.ntmps53
  go_wp2
  go_returns
  exact ⟨rfl, by repeat (first | exact Below.refl _ _ | apply below_alloc | apply below_drew | refine below_set ?_ (by simp) | (refine Below.setCell ?_ (by simp) _))⟩
end Go.Proofs.YtgdbeiadlgkedaaGreatDoor
set_option linter.unusedVariables false
set_option linter.unusedSimpArgs false
namespace Go.Proofs.YtgdbeiadlgkedaaGreatDoor
open Go.RowKit PFnWindowOne Go.Proofs.YtgdbeiadlgkedaaGreatDoorW.PrintWords
theorem mthG_1 (a : Nat) : ∀ W : World, (nilAhead 83 189 (.pointer (some ⟨a, 0, none⟩)) "Encode").run Tryz.prog W = .ok (some false) W := fun _ => by kernel_rfl
theorem mthG_0 (a : Nat) : ∀ W : World, (nilAhead 83 186 (.pointer (some ⟨a, 0, none⟩)) "Encode").run Tryz.prog W = .ok (some false) W := fun _ => by kernel_rfl
def wsB (b : Bool) (l : List S23) : List UInt8 := if b then Lib.beBytes 4 l.length ++ winsB l else [0, 0, 0, 1]
theorem wsB_len (b : Bool) (l : List S23) (h : l.length ≤ 20) : (wsB b l).length ≤ 364 := by
  unfold wsB
  cases b
  · show ([0, 0, 0, 1] : List UInt8).length ≤ 364; decide
  · have := winsB_len l
    simp only [if_true]
    rw [List.length_append, Lib.beBytes_length]; omega
set_option maxHeartbeats 8000000 in
set_option maxRecDepth 100000 in
theorem encHead_1 (B b base a : Nat) (l : List S23) (hok : ∀ x ∈ l, okS (toS x)) (hl : l.length ≤ 20) (A : Option Addr) (c : Nat) (tm : Int) (htm : -9223372036854775808 ≤ tm ∧ tm ≤ 9223372036854775807) (t : Nat) (ht : t < 4) (f ll : Bool) (i n : Int) (hp : t = 0 → n = -1 ∨ (i = 0 ∧ n = 0)) (w : World) (h : Bf B b [] w) (hB : B ≤ w.heap.size) (hb : b < base) (hR : Kd.R kIf 88 w base (fun _ => True) (.slice A l.length c) l) :
    Calls Tryz.prog 52 #[.iface 189 (.pointer (some ⟨a, 0, none⟩)), .slice A l.length c, .int .i64 tm, .agg #[.int .u8 t, .bool f, .bool ll, .int .i64 i, .int .i64 n], bfI b] w fun x w' => x = .returned .nilIface ∧ Bf B b (Lib.beBytes 8 (tm + 9223372036854775808).toNat ++ wsB true l ++ pbytes t f ll i n) w' ∧ Below B w w' := by
  have hF : Bf B b [] (w.alloc (.cells #[.int .u8 t, .bool f, .bool ll, .int .i64 i, .int .i64 n] 119)) := h.old ((Below.refl w.heap.size w).alloc (Nat.le_refl _) _)
  have HT := Lib.hid (encTime_k B b tm [] _ htm.1 htm.2 hF (by decide))
  have HX := Lib.hid (heap_alloc_new w (.cells #[.int .u8 t, .bool f, .bool ll, .int .i64 i, .int .i64 n] 119))
  have HBA := Lib.hid ((Below.refl B w).alloc hB (.cells #[.int .u8 t, .bool f, .bool ll, .int .i64 i, .int .i64 n] 119))
  have HRA := Lib.hid (show Kd.R kIf 88 (w.alloc (.cells #[.int .u8 t, .bool f, .bool ll, .int .i64 i, .int .i64 n] 119)) base (fun _ => True) (.slice A l.length c) l from Kd.R_alloc hR _)
  have HNE := Lib.hid (show some w.heap.size ≠ some b by have := h.lt; intro e; cases e; omega)
  have HK := Lib.hid (And.intro hB (And.intro hb (And.intro ht (And.intro hok (And.intro hl hp)))))
  have na := mthG_1
  clear hok hl htm ht hp h hB hb hR hF
  go_enter Tryz.func52, Tryz.ntmps52
  go_wp2_with (first
    | (go_at_call 68; go_loud (refine HT.out.mono ?_; rintro e_ w1 ⟨rfl, h1, h2, h3⟩; have H1 := Lib.hid (And.intro h1 (And.intro h2 h3)); have HX1 := Lib.hid (h3 w.heap.size _ HX.out HNE.out (by intro c fz hc; cases hc)); have HR1 := Lib.hid (R_others HRA.out h3 HK.out.2.1); clear h1 h2 h3))
    | (go_at_call 148; go_loud (refine (encAll_1 B b base (some ⟨a, 0, none⟩) l HK.out.2.2.2.1 HK.out.2.2.2.2.1 A c _ w1 H1.out.1 (Nat.le_trans HK.out.1 (Nat.le_trans (by rw [World.size_alloc]; omega) H1.out.2.1.size)) HK.out.2.1 HR1.out (by rw [List.nil_append, Lib.beBytes_length]; decide)).mono ?_; rintro e_ w2 ⟨rfl, h1, h2, h3⟩; have H2 := Lib.hid (And.intro h1 ((HBA.out.trans H1.out.2.1).trans h2)); have HX2 := Lib.hid (h3 w.heap.size _ HX1.out HNE.out (by intro c fz hc; cases hc)); have c0 : w2.cell? ⟨w.heap.size, 0, none⟩ = some (.int .u8 t) := (blk_cell HX2.out 0).trans rfl; have c1 : w2.cell? ⟨w.heap.size, 1, none⟩ = some (.bool f) := (blk_cell HX2.out 1).trans rfl; have c2 : w2.cell? ⟨w.heap.size, 2, none⟩ = some (.bool ll) := (blk_cell HX2.out 2).trans rfl; have c3 : w2.cell? ⟨w.heap.size, 3, none⟩ = some (.int .i64 i) := (blk_cell HX2.out 3).trans rfl; have c4 : w2.cell? ⟨w.heap.size, 4, none⟩ = some (.int .i64 n) := (blk_cell HX2.out 4).trans rfl; clear h1 h2 h3))
    | (go_at_call 70; go_loud (refine (encPane_ok B b t HK.out.2.2.1 f ll i n HK.out.2.2.2.2.2 _ w2 H2.out.1 ?lim).mono ?_; (case lim => have hq := wsB_len true l HK.out.2.2.2.2.1; unfold wsB at hq; simp only [List.length_append, List.nil_append, Lib.beBytes_length, if_true, List.length_cons, List.length_nil] at hq ⊢; omega); rintro e_ w3 ⟨rfl, h1, h2⟩; have H3 := Lib.hid (And.intro h1 (H2.out.2.trans h2)); clear h1 h2)))
  go_ret
  refine ⟨rfl, ?_, H3.out.2⟩
  have := H3.out.1
  simp only [List.nil_append] at this
  unfold wsB
  simp only [if_true, Bool.false_eq_true, if_false, List.append_assoc] at this ⊢
  exact this
set_option maxHeartbeats 8000000 in
set_option maxRecDepth 100000 in
theorem encHead_0 (B b base a : Nat) (l : List S23) (hok : ∀ x ∈ l, okS (toS x)) (hl : l.length ≤ 20) (A : Option Addr) (c : Nat) (tm : Int) (htm : -9223372036854775808 ≤ tm ∧ tm ≤ 9223372036854775807) (t : Nat) (ht : t < 4) (f ll : Bool) (i n : Int) (hp : t = 0 → n = -1 ∨ (i = 0 ∧ n = 0)) (w : World) (h : Bf B b [] w) (hB : B ≤ w.heap.size) (hb : b < base) (hR : Kd.R kIf 88 w base (fun _ => True) (.slice A l.length c) l) :
    Calls Tryz.prog 52 #[.iface 186 (.pointer (some ⟨a, 0, none⟩)), .slice A l.length c, .int .i64 tm, .agg #[.int .u8 t, .bool f, .bool ll, .int .i64 i, .int .i64 n], bfI b] w fun x w' => x = .returned .nilIface ∧ Bf B b (Lib.beBytes 8 (tm + 9223372036854775808).toNat ++ wsB false l ++ pbytes t f ll i n) w' ∧ Below B w w' := by
  have hF : Bf B b [] (w.alloc (.cells #[.int .u8 t, .bool f, .bool ll, .int .i64 i, .int .i64 n] 119)) := h.old ((Below.refl w.heap.size w).alloc (Nat.le_refl _) _)
  have HT := Lib.hid (encTime_k B b tm [] _ htm.1 htm.2 hF (by decide))
  have HX := Lib.hid (heap_alloc_new w (.cells #[.int .u8 t, .bool f, .bool ll, .int .i64 i, .int .i64 n] 119))
  have HBA := Lib.hid ((Below.refl B w).alloc hB (.cells #[.int .u8 t, .bool f, .bool ll, .int .i64 i, .int .i64 n] 119))
  have HRA := Lib.hid (show Kd.R kIf 88 (w.alloc (.cells #[.int .u8 t, .bool f, .bool ll, .int .i64 i, .int .i64 n] 119)) base (fun _ => True) (.slice A l.length c) l from Kd.R_alloc hR _)
  have HNE := Lib.hid (show some w.heap.size ≠ some b by have := h.lt; intro e; cases e; omega)
  have HK := Lib.hid (And.intro hB (And.intro hb (And.intro ht (And.intro hok (And.intro hl hp)))))
  have na := mthG_0
  clear hok hl htm ht hp h hB hb hR hF
  go_enter Tryz.func52, Tryz.ntmps52
  go_wp2_with (first
    | (go_at_call 68; go_loud (refine HT.out.mono ?_; rintro e_ w1 ⟨rfl, h1, h2, h3⟩; have H1 := Lib.hid (And.intro h1 (And.intro h2 h3)); have HX1 := Lib.hid (h3 w.heap.size _ HX.out HNE.out (by intro c fz hc; cases hc)); have HR1 := Lib.hid (R_others HRA.out h3 HK.out.2.1); clear h1 h2 h3))
    | (go_at_call 146; go_loud (refine (encAll_0 B b (some ⟨a, 0, none⟩) _ _ w1 H1.out.1 (by rw [List.nil_append, Lib.beBytes_length]; decide)).mono ?_; rintro e_ w2 ⟨rfl, h1, h2, h3⟩; have H2 := Lib.hid (And.intro h1 ((HBA.out.trans H1.out.2.1).trans h2)); have HX2 := Lib.hid (h3 w.heap.size _ HX1.out HNE.out (by intro c fz hc; cases hc)); have c0 : w2.cell? ⟨w.heap.size, 0, none⟩ = some (.int .u8 t) := (blk_cell HX2.out 0).trans rfl; have c1 : w2.cell? ⟨w.heap.size, 1, none⟩ = some (.bool f) := (blk_cell HX2.out 1).trans rfl; have c2 : w2.cell? ⟨w.heap.size, 2, none⟩ = some (.bool ll) := (blk_cell HX2.out 2).trans rfl; have c3 : w2.cell? ⟨w.heap.size, 3, none⟩ = some (.int .i64 i) := (blk_cell HX2.out 3).trans rfl; have c4 : w2.cell? ⟨w.heap.size, 4, none⟩ = some (.int .i64 n) := (blk_cell HX2.out 4).trans rfl; clear h1 h2 h3))
    | (go_at_call 70; go_loud (refine (encPane_ok B b t HK.out.2.2.1 f ll i n HK.out.2.2.2.2.2 _ w2 H2.out.1 ?lim).mono ?_; (case lim => have hq := wsB_len false l HK.out.2.2.2.2.1; unfold wsB at hq; simp only [List.length_append, List.nil_append, Lib.beBytes_length, if_true, Bool.false_eq_true, if_false, List.length_cons, List.length_nil] at hq ⊢; omega); rintro e_ w3 ⟨rfl, h1, h2⟩; have H3 := Lib.hid (And.intro h1 (H2.out.2.trans h2)); clear h1 h2)))
  go_ret
  refine ⟨rfl, ?_, H3.out.2⟩
  have := H3.out.1
  simp only [List.nil_append] at this
  unfold wsB
  simp only [if_true, Bool.false_eq_true, if_false, List.append_assoc] at this ⊢
  exact this
end Go.Proofs.YtgdbeiadlgkedaaGreatDoor
set_option linter.unusedVariables false
set_option linter.unusedSimpArgs false
namespace Go.Proofs.YtgdbeiadlgkedaaGreatDoor
open Go.RowKit PFnWindowOne Go.Proofs.YtgdbeiadlgkedaaGreatDoorW.PrintWords
theorem D1.of5 {w0 x : World} {v0 v1 v2 v3 v4 : Value} {T : TypeId} (h : D1 w0 #[v0, v1, v2, v3, v4] T x) : x.cell? ⟨w0.heap.size, 0, none⟩ = some v0 ∧ x.cell? ⟨w0.heap.size, 1, none⟩ = some v1 ∧ x.cell? ⟨w0.heap.size, 2, none⟩ = some v2 ∧ x.cell? ⟨w0.heap.size, 3, none⟩ = some v3 ∧ x.cell? ⟨w0.heap.size, 4, none⟩ = some v4 ∧ Aside0 (D1 w0 #[v0, v1, v2, v3, v4] T x) :=
  ⟨(blk_cell h.1 0).trans rfl, (blk_cell h.1 1).trans rfl, (blk_cell h.1 2).trans rfl, (blk_cell h.1 3).trans rfl, (blk_cell h.1 4).trans rfl, ⟨h⟩⟩
theorem D1.stepB {w0 x y : World} {cs : Array Value} {T : TypeId} {B : Nat} (h : D1 w0 cs T x) (hb : Below B x y) (hB : w0.heap.size < B) : D1 w0 cs T y :=
  ⟨(hb.block _ hB).trans h.1, h.2.trans (hb.mono (Nat.le_of_lt hB))⟩
def hdB (b : Bool) (l : List S23) (tm : Int) (t : Nat) (f ll : Bool) (i n : Int) : List UInt8 := Lib.beBytes 8 (tm + 9223372036854775808).toNat ++ wsB b l ++ pbytes t f ll i n
set_option maxHeartbeats 8000000 in
set_option maxRecDepth 100000 in
theorem encHd_1 (l : List S23) (hok : ∀ x ∈ l, okS (toS x)) (hl : l.length ≤ 20) (A : Option Addr) (c : Nat) (tm : Int) (htm : -9223372036854775808 ≤ tm ∧ tm ≤ 9223372036854775807) (t : Nat) (ht : t < 4) (f ll : Bool) (i n : Int) (hp : t = 0 → n = -1 ∨ (i = 0 ∧ n = 0)) (w : World) (hC : Kd.C k23 w A l.length l) (hc : l.length ≤ c) :
    Calls Tryz.prog 22 #[.int .i64 1, .slice A l.length c, .int .i64 tm, .agg #[.int .i64 (t : Nat), .bool f, .bool ll, .int .i64 i, .int .i64 n]] w fun x w' => x = .returned (.tuple #[.string ⟨(hdB true l tm t f ll i n).toArray⟩, .string ⟨#[]⟩]) ∧ Below w.heap.size w w' := by
  have HI := Lib.hid (impl_intervals.calls (l.length + 1) 1 A c l true (w.alloc (.cells #[.int .i64 (t : Nat), .bool f, .bool ll, .int .i64 i, .int .i64 n] 42)) (C_move hC (below_alloc (Below.refl _ _) _)) hc (ints1 l (by omega) hok))
  have HC := Lib.hid hC
  have HK := Lib.hid (And.intro hok (And.intro hl (And.intro hc (And.intro htm (And.intro ht hp)))))
  have HD := Lib.hid (show D1 w #[.int .i64 (t : Nat), .bool f, .bool ll, .int .i64 i, .int .i64 n] 42 (w.alloc (.cells #[.int .i64 (t : Nat), .bool f, .bool ll, .int .i64 i, .int .i64 n] 42)) from ⟨heap_alloc_new w _, below_alloc (Below.refl w.heap.size w) _⟩)
  have HPA := Lib.hid (fun W => pane_any t f ll i n ht W)
  clear hok hl hC hc htm ht hp
  go_enter Tryz.func22, Tryz.ntmps22
  go_wp2_with (go_at_call 36; go_loud ((with_reducible refine HI.out.mono ?_); rintro e_ w1 ⟨rfl, hb⟩; have HD1 := Lib.hid (HD.out.step hb); clear hb))
  have HX := Lib.hid (show (Bf w1.heap.size w1.heap.size [] (w1.alloc (.cells #[.slice none 0 0, .int .i64 0, .int .i8 0] 105)).drew ∧ Below w1.heap.size w1 (w1.alloc (.cells #[.slice none 0 0, .int .i64 0, .int .i8 0] 105)).drew) from by
    have h0 : Below w1.heap.size w1 (w1.alloc (.cells #[.slice none 0 0, .int .i64 0, .int .i8 0] 105)).drew := below_drew (below_alloc (Below.refl _ _) _)
    have hF : Bf w1.heap.size w1.heap.size [] (w1.alloc (.cells #[.slice none 0 0, .int .i64 0, .int .i8 0] 105)) := Lib.fresh_isBuffer 105 5 w1
    exact ⟨hF.old (below_drew (Below.refl _ _)), h0⟩)
  have KD : D1 w #[.int .i64 (t : Nat), .bool f, .bool ll, .int .i64 i, .int .i64 n] 42 (w1.alloc (.cells #[.slice none 0 0, .int .i64 0, .int .i8 0] 105)).drew := HD1.out.step HX.out.2
  have K0 := D1.of5 KD
  have HKD := Lib.hid KD
  clear KD
  go_region_held3 (fun w' => w'.cell? ⟨w.heap.size, 0, none⟩ = some (.int .i64 (t : Nat)) ∧ w'.cell? ⟨w.heap.size, 1, none⟩ = some (.bool f) ∧ w'.cell? ⟨w.heap.size, 2, none⟩ = some (.bool ll) ∧ w'.cell? ⟨w.heap.size, 3, none⟩ = some (.int .i64 i) ∧ w'.cell? ⟨w.heap.size, 4, none⟩ = some (.int .i64 n) ∧ Aside0 (D1 w #[.int .i64 (t : Nat), .bool f, .bool ll, .int .i64 i, .int .i64 n] 42 w')) (assumption) (first
    | (go_at_call 39; go_loud (refine (wcoder_1 _).mono ?_; rintro e_ w2 ⟨rfl, hw⟩; have hb : Below (w1.alloc (.cells #[.slice none 0 0, .int .i64 0, .int .i8 0] 105)).drew.heap.size (w1.alloc (.cells #[.slice none 0 0, .int .i64 0, .int .i8 0] 105)).drew w2 := (by rw [hw]; exact (Below.refl _ _).alloc (Nat.le_refl _) _); have HC2 := Lib.hid (buf_next (o2 := .cells #[.string iwc, .string ⟨#[]⟩] 182) hw); have HX2 := Lib.hid (And.intro (HX.out.1.old hb) (below_then HX.out.2 HX.out.2.size hb)); have HK2 := Lib.hid (D1.step HKD.out hb); have K2 := D1.of5 HK2.out; clear hw hb))
    | (go_at_call 38; go_loud (refine (wenc_1 (w1.heap.size + 1) w2 HC2.out).mono ?_; rintro e_ w3 ⟨rfl, hw⟩; have hb : Below w2.heap.size w2 w3 := (by rw [hw]; exact (Below.refl _ _).alloc (Nat.le_refl _) _); have HX3 := Lib.hid (And.intro (HX2.out.1.old hb) (below_then HX2.out.2 HX2.out.2.size hb)); have HK3 := Lib.hid (D1.step HK2.out hb); have K3 := D1.of5 HK3.out; clear hw hb))
    | (go_at_call 48; go_loud (refine (wins_any A c l w3 (C_move HC.out HK3.out.2) HK.out.2.2.1 (by have := HK.out.2.1; omega)).mono ?_; rintro e_ w4 ⟨v, rfl, hR, hb⟩; have HX4 := Lib.hid (And.intro (HX3.out.1.old hb) (below_then HX3.out.2 HX3.out.2.size hb)); obtain ⟨A4, c4, rfl⟩ := Kd.R_slice hR; have HR4 := Lib.hid hR; have HK4 := Lib.hid (D1.step HK3.out hb); have K4 := D1.of5 HK4.out; clear hR hb))
    | (go_at_call 53; go_loud ((with_reducible refine (HPA.out _).mono ?_); rintro e_ w5 ⟨rfl, hb⟩; have HX5 := Lib.hid (And.intro (HX4.out.1.old hb) (below_then HX4.out.2 HX4.out.2.size hb)); have HR5 := Lib.hid (Kd.R_below HR4.out hb); have HK5 := Lib.hid (D1.step HK4.out hb); have K5 := D1.of5 HK5.out; clear hb))
    | (go_at_call 52; go_loud (refine (encHead_1 w1.heap.size w1.heap.size w3.heap.size w2.heap.size l HK.out.1 HK.out.2.1 A4 c4 tm HK.out.2.2.2.1 t HK.out.2.2.2.2.1 f ll i n HK.out.2.2.2.2.2 w5 HX5.out.1 HX5.out.2.size (by have := HX3.out.1.lt; exact this) HR5.out).mono ?_; rintro e_ w6 ⟨rfl, h1, h2⟩; have HK6 := Lib.hid (D1.stepB HK5.out h2 (blk_lt HD1.out.1)); have K6 := D1.of5 HK6.out; have HX6 := Lib.hid (And.intro h1 (HD1.out.2.trans ((HX5.out.2.trans h2).mono HD1.out.2.size))); clear h1 h2)))
  all_goals
    clear K0 K2 K3 K4 K5 K6
    refine (by assumption : ∀ (a : Act) (w : World), Code.wp _ _ _ a w → _) _ _ ?_
    go_wp2_with (first | (go_at_call 49; go_loud (refine (string_any _ _ _ _ HX6.out.1).mono ?_; rintro e_ w7 ⟨rfl, q, rfl⟩)) | (go_at_call 41; go_loud (refine (word_nilZ _).mono ?_; rintro e_ w8 ⟨rfl, rfl⟩)))
    go_ret2
    exact ⟨rfl, below_drewN HX6.out.2 q⟩
set_option maxHeartbeats 8000000 in
set_option maxRecDepth 100000 in
theorem encHd_0 (l : List S23) (hok : ∀ x ∈ l, okS (toS x)) (hl : l.length ≤ 20) (A : Option Addr) (c : Nat) (tm : Int) (htm : -9223372036854775808 ≤ tm ∧ tm ≤ 9223372036854775807) (t : Nat) (ht : t < 4) (f ll : Bool) (i n : Int) (hp : t = 0 → n = -1 ∨ (i = 0 ∧ n = 0)) (w : World) (hC : Kd.C k23 w A l.length l) (hc : l.length ≤ c) :
    Calls Tryz.prog 22 #[.int .i64 0, .slice A l.length c, .int .i64 tm, .agg #[.int .i64 (t : Nat), .bool f, .bool ll, .int .i64 i, .int .i64 n]] w fun x w' => x = .returned (.tuple #[.string ⟨(hdB false l tm t f ll i n).toArray⟩, .string ⟨#[]⟩]) ∧ Below w.heap.size w w' := by
  have HI := Lib.hid (impl_intervals.calls (l.length + 1) 0 A c l true (w.alloc (.cells #[.int .i64 (t : Nat), .bool f, .bool ll, .int .i64 i, .int .i64 n] 42)) (C_move hC (below_alloc (Below.refl _ _) _)) hc (ints0 l (by omega)))
  have HC := Lib.hid hC
  have HK := Lib.hid (And.intro hok (And.intro hl (And.intro hc (And.intro htm (And.intro ht hp)))))
  have HD := Lib.hid (show D1 w #[.int .i64 (t : Nat), .bool f, .bool ll, .int .i64 i, .int .i64 n] 42 (w.alloc (.cells #[.int .i64 (t : Nat), .bool f, .bool ll, .int .i64 i, .int .i64 n] 42)) from ⟨heap_alloc_new w _, below_alloc (Below.refl w.heap.size w) _⟩)
  have HPA := Lib.hid (fun W => pane_any t f ll i n ht W)
  clear hok hl hC hc htm ht hp
  go_enter Tryz.func22, Tryz.ntmps22
  go_wp2_with (go_at_call 36; go_loud ((with_reducible refine HI.out.mono ?_); rintro e_ w1 ⟨rfl, hb⟩; have HD1 := Lib.hid (HD.out.step hb); clear hb))
  have HX := Lib.hid (show (Bf w1.heap.size w1.heap.size [] (w1.alloc (.cells #[.slice none 0 0, .int .i64 0, .int .i8 0] 105)).drew ∧ Below w1.heap.size w1 (w1.alloc (.cells #[.slice none 0 0, .int .i64 0, .int .i8 0] 105)).drew) from by
    have h0 : Below w1.heap.size w1 (w1.alloc (.cells #[.slice none 0 0, .int .i64 0, .int .i8 0] 105)).drew := below_drew (below_alloc (Below.refl _ _) _)
    have hF : Bf w1.heap.size w1.heap.size [] (w1.alloc (.cells #[.slice none 0 0, .int .i64 0, .int .i8 0] 105)) := Lib.fresh_isBuffer 105 5 w1
    exact ⟨hF.old (below_drew (Below.refl _ _)), h0⟩)
  have KD : D1 w #[.int .i64 (t : Nat), .bool f, .bool ll, .int .i64 i, .int .i64 n] 42 (w1.alloc (.cells #[.slice none 0 0, .int .i64 0, .int .i8 0] 105)).drew := HD1.out.step HX.out.2
  have K0 := D1.of5 KD
  have HKD := Lib.hid KD
  clear KD
  go_region_held3 (fun w' => w'.cell? ⟨w.heap.size, 0, none⟩ = some (.int .i64 (t : Nat)) ∧ w'.cell? ⟨w.heap.size, 1, none⟩ = some (.bool f) ∧ w'.cell? ⟨w.heap.size, 2, none⟩ = some (.bool ll) ∧ w'.cell? ⟨w.heap.size, 3, none⟩ = some (.int .i64 i) ∧ w'.cell? ⟨w.heap.size, 4, none⟩ = some (.int .i64 n) ∧ Aside0 (D1 w #[.int .i64 (t : Nat), .bool f, .bool ll, .int .i64 i, .int .i64 n] 42 w')) (assumption) (first
    | (go_at_call 39; go_loud (refine (wcoder_0 _).mono ?_; rintro e_ w2 ⟨rfl, hw⟩; have hb : Below (w1.alloc (.cells #[.slice none 0 0, .int .i64 0, .int .i8 0] 105)).drew.heap.size (w1.alloc (.cells #[.slice none 0 0, .int .i64 0, .int .i8 0] 105)).drew w2 := (by rw [hw]; exact (Below.refl _ _).alloc (Nat.le_refl _) _); have HC2 := Lib.hid (buf_next (o2 := .cells #[.string gwc, .string ⟨#[]⟩] 182) hw); have HX2 := Lib.hid (And.intro (HX.out.1.old hb) (below_then HX.out.2 HX.out.2.size hb)); have HK2 := Lib.hid (D1.step HKD.out hb); have K2 := D1.of5 HK2.out; clear hw hb))
    | (go_at_call 38; go_loud (refine (wenc_0 (w1.heap.size + 1) w2 HC2.out).mono ?_; rintro e_ w3 ⟨rfl, hw⟩; have hb : Below w2.heap.size w2 w3 := (by rw [hw]; exact (Below.refl _ _).alloc (Nat.le_refl _) _); have HX3 := Lib.hid (And.intro (HX2.out.1.old hb) (below_then HX2.out.2 HX2.out.2.size hb)); have HK3 := Lib.hid (D1.step HK2.out hb); have K3 := D1.of5 HK3.out; clear hw hb))
    | (go_at_call 48; go_loud (refine (wins_any A c l w3 (C_move HC.out HK3.out.2) HK.out.2.2.1 (by have := HK.out.2.1; omega)).mono ?_; rintro e_ w4 ⟨v, rfl, hR, hb⟩; have HX4 := Lib.hid (And.intro (HX3.out.1.old hb) (below_then HX3.out.2 HX3.out.2.size hb)); obtain ⟨A4, c4, rfl⟩ := Kd.R_slice hR; have HR4 := Lib.hid hR; have HK4 := Lib.hid (D1.step HK3.out hb); have K4 := D1.of5 HK4.out; clear hR hb))
    | (go_at_call 53; go_loud ((with_reducible refine (HPA.out _).mono ?_); rintro e_ w5 ⟨rfl, hb⟩; have HX5 := Lib.hid (And.intro (HX4.out.1.old hb) (below_then HX4.out.2 HX4.out.2.size hb)); have HR5 := Lib.hid (Kd.R_below HR4.out hb); have HK5 := Lib.hid (D1.step HK4.out hb); have K5 := D1.of5 HK5.out; clear hb))
    | (go_at_call 52; go_loud (refine (encHead_0 w1.heap.size w1.heap.size w3.heap.size w2.heap.size l HK.out.1 HK.out.2.1 A4 c4 tm HK.out.2.2.2.1 t HK.out.2.2.2.2.1 f ll i n HK.out.2.2.2.2.2 w5 HX5.out.1 HX5.out.2.size (by have := HX3.out.1.lt; exact this) HR5.out).mono ?_; rintro e_ w6 ⟨rfl, h1, h2⟩; have HK6 := Lib.hid (D1.stepB HK5.out h2 (blk_lt HD1.out.1)); have K6 := D1.of5 HK6.out; have HX6 := Lib.hid (And.intro h1 (HD1.out.2.trans ((HX5.out.2.trans h2).mono HD1.out.2.size))); clear h1 h2)))
  all_goals
    clear K0 K2 K3 K4 K5 K6
    refine (by assumption : ∀ (a : Act) (w : World), Code.wp _ _ _ a w → _) _ _ ?_
    go_wp2_with (first | (go_at_call 49; go_loud (refine (string_any _ _ _ _ HX6.out.1).mono ?_; rintro e_ w7 ⟨rfl, q, rfl⟩)) | (go_at_call 41; go_loud (refine (word_nilZ _).mono ?_; rintro e_ w8 ⟨rfl, rfl⟩)))
    go_ret2
    exact ⟨rfl, below_drewN HX6.out.2 q⟩
end Go.Proofs.YtgdbeiadlgkedaaGreatDoor
set_option linter.unusedVariables false
set_option linter.unusedSimpArgs false
namespace Go.Proofs.YtgdbeiadlgkedaaGreatDoor
open Go.RowKit PFnWindowOne Go.Proofs.YtgdbeiadlgkedaaGreatDoorW.PrintWords
theorem rd32_map (l : List S23) (k : Nat) (h : k < l.length) : rd_T32 (l.map toS) (k : Int) = toS (rdN l k) := by
  rw [rd32_at _ k (by rw [List.length_map]; exact h), List.getElem_map, rdN_at l k h]
theorem atS {w : World} {A : Option Addr} {n : Nat} {l : List S23} (h : Kd.C k32 w A n (l.map toS)) (hn : n = l.length) (i : Nat) (h1 : i < n) : ∃ ad, A = some ad ∧ w.cell? (ad.add (i * 3)) = some (.bool (rdN l i).f0) ∧ w.cell? ⟨(ad.add (i * 3)).block, (ad.add (i * 3)).off + 1, none⟩ = some (.int .i64 (rdN l i).f1) ∧ w.cell? ⟨(ad.add (i * 3)).block, (ad.add (i * 3)).off + 2, none⟩ = some (.int .i64 (rdN l i).f2) := by
  obtain ⟨ad, e, h0, h1, h2⟩ := at_T32 h (i : Int) (by omega) (by omega)
  rw [rd32_map l i (by omega)] at h0 h1 h2
  exact ⟨ad, e, h0, h1, h2⟩
end Go.Proofs.YtgdbeiadlgkedaaGreatDoor
set_option linter.unusedVariables false
set_option linter.unusedSimpArgs false
namespace Go.Proofs.YtgdbeiadlgkedaaGreatDoor
open Go.RowKit PFnWindowOne Go.Proofs.YtgdbeiadlgkedaaGreatDoorW.PrintWords
theorem D1.bel {w0 x : World} {cs : Array Value} {T : TypeId} (h : D1 w0 cs T x) : Below w0.heap.size w0 x := h.2
theorem pbytes_len (t : Nat) (f ll : Bool) (i n : Int) : (pbytes t f ll i n).length ≤ 21 := by
  have l1 := Lib.uvarint_length64 (u64n_lt i)
  have l2 := Lib.uvarint_length64 (u64n_lt n)
  unfold pbytes
  split
  · simp
  · split
    · simp only [List.length_cons]; omega
    · simp only [List.length_cons, List.length_append]; omega
end Go.Proofs.YtgdbeiadlgkedaaGreatDoor
set_option linter.unusedVariables false
set_option linter.unusedSimpArgs false
namespace Go.Proofs.YtgdbeiadlgkedaaGreatDoor
open Go.RowKit PFnWindowOne Go.Proofs.YtgdbeiadlgkedaaGreatDoorW.PrintWords
theorem D1.set5 {w x : World} {a0 a1 a2 a3 a4 : Value} {T : TypeId} (h : D1 w #[a0, a1, a2, a3, a4] T x) (v0 v1 v2 v3 v4 : Value) : D1 w #[v0, v1, v2, v3, v4] T (((((x.setCell ⟨w.heap.size, 0, none⟩ v0).setCell ⟨w.heap.size, 1, none⟩ v1).setCell ⟨w.heap.size, 2, none⟩ v2).setCell ⟨w.heap.size, 3, none⟩ v3).setCell ⟨w.heap.size, 4, none⟩ v4) :=
  ⟨Go.Proofs.YtgdbeiadlgkedaaGreatDoor.set5 h.1 v0 v1 v2 v3 v4, h.2.trans (set5_below (Nat.le_refl _) v0 v1 v2 v3 v4)⟩
theorem D1.c5 {w0 x : World} {v0 v1 v2 v3 v4 : Value} {T : TypeId} (h : D1 w0 #[v0, v1, v2, v3, v4] T x) : x.cell? ⟨w0.heap.size, 0, none⟩ = some v0 ∧ x.cell? ⟨w0.heap.size, 1, none⟩ = some v1 ∧ x.cell? ⟨w0.heap.size, 2, none⟩ = some v2 ∧ x.cell? ⟨w0.heap.size, 3, none⟩ = some v3 ∧ x.cell? ⟨w0.heap.size, 4, none⟩ = some v4 := laid5 h.1
theorem cells_set5 {x : World} {b k : Nat} (hne : k ≠ b) (v0 v1 v2 v3 v4 : Value) : (((((x.setCell ⟨b, 0, none⟩ v0).setCell ⟨b, 1, none⟩ v1).setCell ⟨b, 2, none⟩ v2).setCell ⟨b, 3, none⟩ v3).setCell ⟨b, 4, none⟩ v4).heap[k]? = x.heap[k]? :=
  (Below.heap_setCell _ _ _ _ hne).trans ((Below.heap_setCell _ _ _ _ hne).trans ((Below.heap_setCell _ _ _ _ hne).trans ((Below.heap_setCell _ _ _ _ hne).trans (Below.heap_setCell _ _ _ _ hne))))
theorem R_set5 {x : World} {b base : Nat} {v : Value} {l : List S23} (h : Kd.R k23 23 x base (fun _ => True) v l) (hb : b < base) (v0 v1 v2 v3 v4 : Value) : Kd.R k23 23 (((((x.setCell ⟨b, 0, none⟩ v0).setCell ⟨b, 1, none⟩ v1).setCell ⟨b, 2, none⟩ v2).setCell ⟨b, 3, none⟩ v3).setCell ⟨b, 4, none⟩ v4) base (fun _ => True) v l :=
  Kd.R_mono (Kd.R_move (Kd.R_bound h) (fun k hk => by
    obtain ⟨_, h1, _⟩ := hk
    exact cells_set5 (by omega) v0 v1 v2 v3 v4)) (fun _ _ => trivial)
set_option maxHeartbeats 8000000 in
set_option maxRecDepth 100000 in
theorem headOf_1_right (B : Nat) (pe pl : Addr) (tx : ByteArray) (w : World) (ht : tx.size ≤ 4294967296) (he : Env B pe pl w) (hB : B ≤ w.heap.size) (h8 : 0 + 8 ≤ tx.data.toList.length) (T : Int) (hT : wrap64 (wrap64 (Lib.beNat ((tx.data.toList.drop 0).take 8) : Nat) + -9223372036854775808) = T) (n : Nat) (hn : n ≤ 1000000) (ys : List S23) (p : Nat) (hw : ∀ (r g : Nat) (a : Option Addr) (W : World), Rd r g tx.data.toList (0 + 8) W → Env B pe pl W → B ≤ r → B ≤ W.heap.size → Calls Tryz.prog 159 #[.pointer a, rdI r] W fun e w' => ∃ gb, e = .returned (.tuple #[.slice (some ⟨gb, 0, none⟩) n n, .nilIface]) ∧ IfRow gb n ys w' ∧ ys.length = n ∧ W.heap.size ≤ gb ∧ W.grownBy w' (some r) ∧ Rd r g tx.data.toList p w') (t : Nat) (htt : t < 256) (f la : Bool) (ix m : Int) (kk z : Nat) (hp : rdPane (tx.data.toList.drop p) = .right t f la ix m kk) (hz : p + kk = z) :
    Calls Tryz.prog 23 #[.int .i64 1, .string tx] w fun x w' => ∃ (A : Option Addr) (c : Nat), x = .returned (.tuple #[.slice A ys.length c, .int .i64 T, .agg #[(.int .i64 (t : Nat)), (.bool f), (.bool la), (.int .i64 ix), (.int .i64 m)], .int .i64 (z : Nat), .string ⟨#[]⟩]) ∧ Kd.C k23 w' A ys.length (ys.map nz) ∧ ys.length ≤ c ∧ Below w.heap.size w w' := by
  have kc := conv_bytes
  have HT := Lib.hid (And.intro ht (And.intro he hB))
  have HBP := Lib.hid (fun W => backPane_any t f la ix m htt W)
  have HY := Lib.hid (fun (r : Nat) (W : World) (a : Nat) (h : Rd r (w.heap.size + 1) tx.data.toList 0 W) (he : Env B pe pl W) (hBr : B ≤ r) (hB : B ≤ W.heap.size) => decHead_1_right B pe pl a r (w.heap.size + 1) tx.data.toList W h he hBr hB h8 T hT n ys p (hw r (w.heap.size + 1)) t f la ix m kk hp)
  rw [hz] at HY
  have HN := Lib.hid hn
  clear ht he hB h8 hT hn hw htt hp hz
  go_enter Tryz.func23, Tryz.ntmps23
  go_wp2_with (first
    | (go_at_call 42; go_loud (refine (newRd_any (w.alloc (.cells #[.int .i64 0, .bool false, .bool false, .int .i64 0, .int .i64 0] 42)) (w.heap.size + 1) (World.size_alloc ..) tx HT.out.1).mono ?_; rintro e_ w1 ⟨r, rfl, hr1, hr2, hr3⟩; obtain ⟨hs1, hs2, hs3, hs4⟩ := dv_start (b := 0) HT.out.2.2 HT.out.2.1 hr2 hr3; have HD1 := Lib.hid (show D1 w #[.int .i64 0, .bool false, .bool false, .int .i64 0, .int .i64 0] 42 w1 from ⟨hs1, hs3⟩); have HS := Lib.hid (And.intro hr1 (And.intro hs2 hs4)); have HR3 := Lib.hid hr3; clear hr1 hr2 hr3 hs1 hs2 hs3 hs4))
    | (go_at_call 39; go_loud (refine (wcoder_1 _).mono ?_; rintro e_ w2 ⟨rfl, hw⟩; have hb : Below w1.heap.size w1 w2 := (by rw [hw]; exact (Below.refl _ _).alloc (Nat.le_refl _) _); have HC2 := Lib.hid (show w2.heap[w1.heap.size]? = some (.cells #[.string iwc, .string ⟨#[]⟩] 182 (0, 0)) by rw [hw]; exact heap_alloc_new w1 _); have HB2 := Lib.hid hb; clear hw hb))
    | (go_at_call 43; go_loud (refine (wdec_1 w1.heap.size w2 HC2.out).mono ?_; rintro e_ w3 ⟨rfl, hw⟩; have hb : Below w1.heap.size w1 w3 := (by rw [hw]; exact HB2.out.alloc HB2.out.size _); have HB3 := Lib.hid hb; have HDD3 := Lib.hid (D1.step HD1.out hb); have HEN := Lib.hid (And.intro (HS.out.1.below hb) (And.intro (HT.out.2.1.below ((D1.bel HDD3.out).mono HT.out.2.2)) (And.intro HS.out.2.2 (Nat.le_trans HT.out.2.2 (D1.bel HDD3.out).size)))); clear hw hb))
    | (go_at_call 54; go_loud (refine (HY.out r w3 _ HEN.out.1 HEN.out.2.1 HEN.out.2.2.1 HEN.out.2.2.2).mono ?_; rintro e_ w4 ⟨gb, rfl, hrow, hyl, hg, hrd⟩; obtain rfl : n = ys.length := hyl.symm; have HC4 := Lib.hid (hrow.C HN.out); have HL4 := Lib.hid (show ys.length * 24 ≤ 140737488351232 by have := HN.out; omega); have HR4 := Lib.hid hrd; have HD4 := Lib.hid ((HDD3.out).grown hg (by have := HR3.out; omega)); clear hrow hg hrd hyl)))
  have KD : D1 w4 #[(.int .u8 (t : Nat)), (.bool f), (.bool la), (.int .i64 ix), (.int .i64 m)] 119 (w4.alloc (.cells #[(.int .u8 (t : Nat)), (.bool f), (.bool la), (.int .i64 ix), (.int .i64 m)] 119)).drew := ⟨heap_alloc_new w4 _, below_drew (below_alloc (Below.refl _ _) _)⟩
  have K0 := D1.c5 KD
  have HKD := Lib.hid KD
  clear KD
  have hlt4 : w.heap.size < w4.heap.size := blk_lt HD4.out.1
  have hne4 : w4.heap.size ≠ w.heap.size := by omega
  have qs : (tx.size : Int) - ((tx.data.toList.length - z : Nat) : Int) = (z : Nat) := by
    have h1 := HR4.out.le
    have h2 : tx.data.toList.length = tx.size := by rw [Array.length_toList]; rfl
    omega
  have qs2 : IntKind.i64.wrap ((z : Nat) : Int) = (z : Nat) := IntWalk.i64_in _ (by have := HR4.out.le; have := HR4.out.len; omega)
  obtain ⟨L, hL⟩ : ∃ L, Hid (tx.data.toList.length - z = L) := ⟨_, Lib.hid rfl⟩
  rw [hL.out] at qs
  go_region_held3 (fun w' => w'.cell? ⟨w4.heap.size, 0, none⟩ = some (.int .u8 (t : Nat)) ∧ w'.cell? ⟨w4.heap.size, 1, none⟩ = some (.bool f) ∧ w'.cell? ⟨w4.heap.size, 2, none⟩ = some (.bool la) ∧ w'.cell? ⟨w4.heap.size, 3, none⟩ = some (.int .i64 ix) ∧ w'.cell? ⟨w4.heap.size, 4, none⟩ = some (.int .i64 m)) (with_reducible assumption) (first
    | (go_at_call 50; go_loud (refine (backWins_any _ _ ys _ (Kd.C_below HC4.out (below_drew (below_alloc (Below.refl _ _) _))) (Nat.le_refl _) HL4.out).mono ?_; rintro e_ w5 ⟨v5, rfl, hR, hb⟩; obtain ⟨A5, c5, e5⟩ := Kd.R_slice hR; subst e5; (try rw [List.length_map]); have HC5 := Lib.hid hR; have HK5 := Lib.hid (D1.step HKD.out hb); have K5 := D1.c5 HK5.out; have HR5 := Lib.hid (((HR4.out.alloc (.cells #[(.int .u8 (t : Nat)), (.bool f), (.bool la), (.int .i64 ix), (.int .i64 m)] 119)).drewN 1).below hb); clear hb hR))
    | (go_at_call 55; go_loud ((with_reducible refine (HBP.out _).mono ?_); rintro e_ w6 ⟨rfl, hb⟩; have HK6 := Lib.hid (D1.step HK5.out hb); have K6 := D1.c5 HK6.out; have HR6 := Lib.hid (HR5.out.below hb); have HC6 := Lib.hid (Kd.R_below HC5.out hb); clear hb))
    | (go_at_call 44; go_loud (refine (len_any r (w.heap.size + 1) tx.data.toList z _ HR6.out).mono ?_; rw [hL.out]; rintro e_ w7 ⟨rfl, q, hq⟩; have HK7 := Lib.hid (show D1 w4 #[(.int .u8 (t : Nat)), (.bool f), (.bool la), (.int .i64 ix), (.int .i64 m)] 119 w7 by rw [hq]; exact D1.drewN HK6.out q); have K7 := D1.c5 HK7.out; have HQ := Lib.hid hq; clear hq))
    | (go_at_call 41; go_loud (refine (word_nilZ _).mono ?_; rintro e_ w8 ⟨rfl, hw⟩; obtain rfl : w8 = w7 := (by first | exact hw | exact hw.symm); have HZ8 := Lib.hid ((D1.bel HK7.out).block _ hlt4 |>.trans HD4.out.1); obtain ⟨k0, k1, k2, k3, k4⟩ := laid5 HZ8.out; obtain ⟨g0, g1, g2, g3, g4⟩ := open5 HZ8.out; have KZ := laid5 ((cells_set5 (x := w8) hne4 (.int .i64 (t : Nat)) (.bool f) (.bool la) (.int .i64 ix) (.int .i64 m)).trans HK7.out.1))))
  all_goals
    refine (by assumption : ∀ (a : Act) (w : World), Code.wp _ _ _ a w → _) _ _ ?_
    have HW8 := Lib.hid (show Below w.heap.size w w8 from below_then (D1.bel HD4.out) (D1.bel HD4.out).size (D1.bel HK7.out))
    have HF := Lib.hid (And.intro (set5 HZ8.out (.int .i64 (t : Nat)) (.bool f) (.bool la) (.int .i64 ix) (.int .i64 m)) (HW8.out.trans (set5_any (W := w8) (b := w.heap.size) (.int .i64 (t : Nat)) (.bool f) (.bool la) (.int .i64 ix) (.int .i64 m))))
    have HRF := Lib.hid (R_set5 (x := w8) (b := w.heap.size) (Kd.R_lower (show Kd.R k23 23 w8 _ (fun _ => True) _ _ by rw [HQ.out]; exact Kd.R_drewN HC6.out q) (Nat.le_refl _)) (Nat.lt_of_lt_of_le hlt4 (D1.bel HKD.out).size) (.int .i64 (t : Nat)) (.bool f) (.bool la) (.int .i64 ix) (.int .i64 m))
    clear k0 k1 k2 k3 k4 g0 g1 g2 g3 g4 KZ
    go_wp2
    generalize (((((w8.setCell ⟨w.heap.size, 0, none⟩ (.int .i64 (t : Nat))).setCell ⟨w.heap.size, 1, none⟩ (.bool f)).setCell ⟨w.heap.size, 2, none⟩ (.bool la)).setCell ⟨w.heap.size, 3, none⟩ (.int .i64 ix)).setCell ⟨w.heap.size, 4, none⟩ (.int .i64 m)) = X at HF HRF ⊢
    obtain ⟨c0, c1, c2, c3, c4⟩ := laid5 HF.out.1
    exact bodyPost_ret (v := .tuple #[.slice A5 ys.length c5, .int .i64 T, .agg #[(.int .i64 (t : Nat)), (.bool f), (.bool la), (.int .i64 ix), (.int .i64 m)], .int .i64 (z : Nat), .string ⟨#[]⟩]) (by simp [results, Tryz.results23, go_sem, c0, c1, c2, c3, c4]; try rfl) rfl ⟨A5, c5, rfl, (by have := (Kd.R_reads' HRF.out).2.2; rwa [List.length_map] at this), (by have := (Kd.R_reads' HRF.out).2.1; rwa [List.length_map] at this), HF.out.2⟩
set_option maxHeartbeats 8000000 in
set_option maxRecDepth 100000 in
theorem headOf_0_right (B : Nat) (pe pl : Addr) (tx : ByteArray) (w : World) (ht : tx.size ≤ 4294967296) (he : Env B pe pl w) (hB : B ≤ w.heap.size) (h8 : 0 + 8 ≤ tx.data.toList.length) (T : Int) (hT : wrap64 (wrap64 (Lib.beNat ((tx.data.toList.drop 0).take 8) : Nat) + -9223372036854775808) = T) (n : Nat) (hn : n ≤ 1000000) (ys : List S23) (p : Nat) (hw : ∀ (r g : Nat) (a : Option Addr) (W : World), Rd r g tx.data.toList (0 + 8) W → Env B pe pl W → B ≤ r → B ≤ W.heap.size → Calls Tryz.prog 156 #[.pointer a, rdI r] W fun e w' => ∃ gb, e = .returned (.tuple #[.slice (some ⟨gb, 0, none⟩) n n, .nilIface]) ∧ IfRow gb n ys w' ∧ ys.length = n ∧ W.heap.size ≤ gb ∧ W.grownBy w' (some r) ∧ Rd r g tx.data.toList p w') (t : Nat) (htt : t < 256) (f la : Bool) (ix m : Int) (kk z : Nat) (hp : rdPane (tx.data.toList.drop p) = .right t f la ix m kk) (hz : p + kk = z) :
    Calls Tryz.prog 23 #[.int .i64 0, .string tx] w fun x w' => ∃ (A : Option Addr) (c : Nat), x = .returned (.tuple #[.slice A ys.length c, .int .i64 T, .agg #[(.int .i64 (t : Nat)), (.bool f), (.bool la), (.int .i64 ix), (.int .i64 m)], .int .i64 (z : Nat), .string ⟨#[]⟩]) ∧ Kd.C k23 w' A ys.length (ys.map nz) ∧ ys.length ≤ c ∧ Below w.heap.size w w' := by
  have kc := conv_bytes
  have HT := Lib.hid (And.intro ht (And.intro he hB))
  have HBP := Lib.hid (fun W => backPane_any t f la ix m htt W)
  have HY := Lib.hid (fun (r : Nat) (W : World) (a : Nat) (h : Rd r (w.heap.size + 1) tx.data.toList 0 W) (he : Env B pe pl W) (hBr : B ≤ r) (hB : B ≤ W.heap.size) => decHead_0_right B pe pl a r (w.heap.size + 1) tx.data.toList W h he hBr hB h8 T hT n ys p (hw r (w.heap.size + 1)) t f la ix m kk hp)
  rw [hz] at HY
  have HN := Lib.hid hn
  clear ht he hB h8 hT hn hw htt hp hz
  go_enter Tryz.func23, Tryz.ntmps23
  go_wp2_with (first
    | (go_at_call 42; go_loud (refine (newRd_any (w.alloc (.cells #[.int .i64 0, .bool false, .bool false, .int .i64 0, .int .i64 0] 42)) (w.heap.size + 1) (World.size_alloc ..) tx HT.out.1).mono ?_; rintro e_ w1 ⟨r, rfl, hr1, hr2, hr3⟩; obtain ⟨hs1, hs2, hs3, hs4⟩ := dv_start (b := 0) HT.out.2.2 HT.out.2.1 hr2 hr3; have HD1 := Lib.hid (show D1 w #[.int .i64 0, .bool false, .bool false, .int .i64 0, .int .i64 0] 42 w1 from ⟨hs1, hs3⟩); have HS := Lib.hid (And.intro hr1 (And.intro hs2 hs4)); have HR3 := Lib.hid hr3; clear hr1 hr2 hr3 hs1 hs2 hs3 hs4))
    | (go_at_call 39; go_loud (refine (wcoder_0 _).mono ?_; rintro e_ w2 ⟨rfl, hw⟩; have hb : Below w1.heap.size w1 w2 := (by rw [hw]; exact (Below.refl _ _).alloc (Nat.le_refl _) _); have HC2 := Lib.hid (show w2.heap[w1.heap.size]? = some (.cells #[.string gwc, .string ⟨#[]⟩] 182 (0, 0)) by rw [hw]; exact heap_alloc_new w1 _); have HB2 := Lib.hid hb; clear hw hb))
    | (go_at_call 43; go_loud (refine (wdec_0 w1.heap.size w2 HC2.out).mono ?_; rintro e_ w3 ⟨rfl, hw⟩; have hb : Below w1.heap.size w1 w3 := (by rw [hw]; exact HB2.out.alloc HB2.out.size _); have HB3 := Lib.hid hb; have HDD3 := Lib.hid (D1.step HD1.out hb); have HEN := Lib.hid (And.intro (HS.out.1.below hb) (And.intro (HT.out.2.1.below ((D1.bel HDD3.out).mono HT.out.2.2)) (And.intro HS.out.2.2 (Nat.le_trans HT.out.2.2 (D1.bel HDD3.out).size)))); clear hw hb))
    | (go_at_call 54; go_loud (refine (HY.out r w3 _ HEN.out.1 HEN.out.2.1 HEN.out.2.2.1 HEN.out.2.2.2).mono ?_; rintro e_ w4 ⟨gb, rfl, hrow, hyl, hg, hrd⟩; obtain rfl : n = ys.length := hyl.symm; have HC4 := Lib.hid (hrow.C HN.out); have HL4 := Lib.hid (show ys.length * 24 ≤ 140737488351232 by have := HN.out; omega); have HR4 := Lib.hid hrd; have HD4 := Lib.hid ((HDD3.out).grown hg (by have := HR3.out; omega)); clear hrow hg hrd hyl)))
  have KD : D1 w4 #[(.int .u8 (t : Nat)), (.bool f), (.bool la), (.int .i64 ix), (.int .i64 m)] 119 (w4.alloc (.cells #[(.int .u8 (t : Nat)), (.bool f), (.bool la), (.int .i64 ix), (.int .i64 m)] 119)).drew := ⟨heap_alloc_new w4 _, below_drew (below_alloc (Below.refl _ _) _)⟩
  have K0 := D1.c5 KD
  have HKD := Lib.hid KD
  clear KD
  have hlt4 : w.heap.size < w4.heap.size := blk_lt HD4.out.1
  have hne4 : w4.heap.size ≠ w.heap.size := by omega
  have qs : (tx.size : Int) - ((tx.data.toList.length - z : Nat) : Int) = (z : Nat) := by
    have h1 := HR4.out.le
    have h2 : tx.data.toList.length = tx.size := by rw [Array.length_toList]; rfl
    omega
  have qs2 : IntKind.i64.wrap ((z : Nat) : Int) = (z : Nat) := IntWalk.i64_in _ (by have := HR4.out.le; have := HR4.out.len; omega)
  obtain ⟨L, hL⟩ : ∃ L, Hid (tx.data.toList.length - z = L) := ⟨_, Lib.hid rfl⟩
  rw [hL.out] at qs
  go_region_held3 (fun w' => w'.cell? ⟨w4.heap.size, 0, none⟩ = some (.int .u8 (t : Nat)) ∧ w'.cell? ⟨w4.heap.size, 1, none⟩ = some (.bool f) ∧ w'.cell? ⟨w4.heap.size, 2, none⟩ = some (.bool la) ∧ w'.cell? ⟨w4.heap.size, 3, none⟩ = some (.int .i64 ix) ∧ w'.cell? ⟨w4.heap.size, 4, none⟩ = some (.int .i64 m)) (with_reducible assumption) (first
    | (go_at_call 50; go_loud (refine (backWins_any _ _ ys _ (Kd.C_below HC4.out (below_drew (below_alloc (Below.refl _ _) _))) (Nat.le_refl _) HL4.out).mono ?_; rintro e_ w5 ⟨v5, rfl, hR, hb⟩; obtain ⟨A5, c5, e5⟩ := Kd.R_slice hR; subst e5; (try rw [List.length_map]); have HC5 := Lib.hid hR; have HK5 := Lib.hid (D1.step HKD.out hb); have K5 := D1.c5 HK5.out; have HR5 := Lib.hid (((HR4.out.alloc (.cells #[(.int .u8 (t : Nat)), (.bool f), (.bool la), (.int .i64 ix), (.int .i64 m)] 119)).drewN 1).below hb); clear hb hR))
    | (go_at_call 55; go_loud ((with_reducible refine (HBP.out _).mono ?_); rintro e_ w6 ⟨rfl, hb⟩; have HK6 := Lib.hid (D1.step HK5.out hb); have K6 := D1.c5 HK6.out; have HR6 := Lib.hid (HR5.out.below hb); have HC6 := Lib.hid (Kd.R_below HC5.out hb); clear hb))
    | (go_at_call 44; go_loud (refine (len_any r (w.heap.size + 1) tx.data.toList z _ HR6.out).mono ?_; rw [hL.out]; rintro e_ w7 ⟨rfl, q, hq⟩; have HK7 := Lib.hid (show D1 w4 #[(.int .u8 (t : Nat)), (.bool f), (.bool la), (.int .i64 ix), (.int .i64 m)] 119 w7 by rw [hq]; exact D1.drewN HK6.out q); have K7 := D1.c5 HK7.out; have HQ := Lib.hid hq; clear hq))
    | (go_at_call 41; go_loud (refine (word_nilZ _).mono ?_; rintro e_ w8 ⟨rfl, hw⟩; obtain rfl : w8 = w7 := (by first | exact hw | exact hw.symm); have HZ8 := Lib.hid ((D1.bel HK7.out).block _ hlt4 |>.trans HD4.out.1); obtain ⟨k0, k1, k2, k3, k4⟩ := laid5 HZ8.out; obtain ⟨g0, g1, g2, g3, g4⟩ := open5 HZ8.out; have KZ := laid5 ((cells_set5 (x := w8) hne4 (.int .i64 (t : Nat)) (.bool f) (.bool la) (.int .i64 ix) (.int .i64 m)).trans HK7.out.1))))
  all_goals
    refine (by assumption : ∀ (a : Act) (w : World), Code.wp _ _ _ a w → _) _ _ ?_
    have HW8 := Lib.hid (show Below w.heap.size w w8 from below_then (D1.bel HD4.out) (D1.bel HD4.out).size (D1.bel HK7.out))
    have HF := Lib.hid (And.intro (set5 HZ8.out (.int .i64 (t : Nat)) (.bool f) (.bool la) (.int .i64 ix) (.int .i64 m)) (HW8.out.trans (set5_any (W := w8) (b := w.heap.size) (.int .i64 (t : Nat)) (.bool f) (.bool la) (.int .i64 ix) (.int .i64 m))))
    have HRF := Lib.hid (R_set5 (x := w8) (b := w.heap.size) (Kd.R_lower (show Kd.R k23 23 w8 _ (fun _ => True) _ _ by rw [HQ.out]; exact Kd.R_drewN HC6.out q) (Nat.le_refl _)) (Nat.lt_of_lt_of_le hlt4 (D1.bel HKD.out).size) (.int .i64 (t : Nat)) (.bool f) (.bool la) (.int .i64 ix) (.int .i64 m))
    clear k0 k1 k2 k3 k4 g0 g1 g2 g3 g4 KZ
    go_wp2
    generalize (((((w8.setCell ⟨w.heap.size, 0, none⟩ (.int .i64 (t : Nat))).setCell ⟨w.heap.size, 1, none⟩ (.bool f)).setCell ⟨w.heap.size, 2, none⟩ (.bool la)).setCell ⟨w.heap.size, 3, none⟩ (.int .i64 ix)).setCell ⟨w.heap.size, 4, none⟩ (.int .i64 m)) = X at HF HRF ⊢
    obtain ⟨c0, c1, c2, c3, c4⟩ := laid5 HF.out.1
    exact bodyPost_ret (v := .tuple #[.slice A5 ys.length c5, .int .i64 T, .agg #[(.int .i64 (t : Nat)), (.bool f), (.bool la), (.int .i64 ix), (.int .i64 m)], .int .i64 (z : Nat), .string ⟨#[]⟩]) (by simp [results, Tryz.results23, go_sem, c0, c1, c2, c3, c4]; try rfl) rfl ⟨A5, c5, rfl, (by have := (Kd.R_reads' HRF.out).2.2; rwa [List.length_map] at this), (by have := (Kd.R_reads' HRF.out).2.1; rwa [List.length_map] at this), HF.out.2⟩
end Go.Proofs.YtgdbeiadlgkedaaGreatDoor
