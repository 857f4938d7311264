/- Contracts and plain laws, several texts in one. -/
import Derived.Test.YtgdbeiadlgkedaaGreatDoorMHeader2
import Derived.Test.YtgdbeiadlgkedaaGreatDoorMHeader3
import Derived.Test.YtgdbeiadlgkedaaGreatDoorMHeader4
import Derived.Test.YtgdbeiadlgkedaaGreatDoorMHeader6
import Derived.Test.YtgdbeiadlgkedaaGreatDoorMHeader9
import Derived.Deep.RegionHeld3
import Derived.Test.YtgdbeiadlgkedaaGreatDoorProg
import Derived.Below
import Derived.Deep.Draws
import Derived.Deep.AppendLies
import Derived.Maps.AppendAt
import Derived.OwnWalk
import Derived.Laws.BytesArg
import Derived.Laws.MakeOwn
import Derived.Laws.OwnMore
import Derived.Deep.OwnRows
import Derived.Tactics
import Derived.Lib.ConvBytes
import Derived.Laws.Slices
import Derived.WalkKit
import Derived.KernelRfl
import Derived.RowKit3
import Derived.Deep.LoopGhost
import Derived.Deep.QuietTactic
import Derived.BigQuiet
import Derived.WideLaws
import Derived.Deep.DeepCutAuto
import Derived.Deep.CutBlock
import Derived.Laws.Rows
import Derived.Lib.AppendStr
import Derived.ArgAppend
import Derived.Laws.IdiomCopy
import Derived.OrdersHeld
import Derived.Laws.BitsLemmas
import Derived.RowKit
set_option linter.unusedVariables false
set_option linter.unusedSimpArgs false
namespace Go.Proofs.YtgdbeiadlgkedaaGreatDoor
open Go.RowKit PFnWindowOne Go.Proofs.YtgdbeiadlgkedaaGreatDoorW.PrintWords
theorem D1.of5 {w0 x : World} {v0 v1 v2 v3 v4 : Value} {T : TypeId} (h : D1 w0 #[v0, v1, v2, v3, v4] T x) : x.cell? ⟨w0.heap.size, 0, none⟩ = some v0 ∧ x.cell? ⟨w0.heap.size, 1, none⟩ = some v1 ∧ x.cell? ⟨w0.heap.size, 2, none⟩ = some v2 ∧ x.cell? ⟨w0.heap.size, 3, none⟩ = some v3 ∧ x.cell? ⟨w0.heap.size, 4, none⟩ = some v4 ∧ Aside0 (D1 w0 #[v0, v1, v2, v3, v4] T x) :=
  ⟨(blk_cell h.1 0).trans rfl, (blk_cell h.1 1).trans rfl, (blk_cell h.1 2).trans rfl, (blk_cell h.1 3).trans rfl, (blk_cell h.1 4).trans rfl, ⟨h⟩⟩
theorem D1.stepB {w0 x y : World} {cs : Array Value} {T : TypeId} {B : Nat} (h : D1 w0 cs T x) (hb : Below B x y) (hB : w0.heap.size < B) : D1 w0 cs T y :=
  ⟨(hb.block _ hB).trans h.1, h.2.trans (hb.mono (Nat.le_of_lt hB))⟩
def hdB (b : Bool) (l : List S23) (tm : Int) (t : Nat) (f ll : Bool) (i n : Int) : List UInt8 := Lib.beBytes 8 (tm + 9223372036854775808).toNat ++ wsB b l ++ pbytes t f ll i n
set_option maxHeartbeats 8000000 in
set_option maxRecDepth 100000 in
theorem encHd_1 (l : List S23) (hok : ∀ x ∈ l, okS (toS x)) (hl : l.length ≤ 20) (A : Option Addr) (c : Nat) (tm : Int) (htm : -9223372036854775808 ≤ tm ∧ tm ≤ 9223372036854775807) (t : Nat) (ht : t < 4) (f ll : Bool) (i n : Int) (hp : t = 0 → n = -1 ∨ (i = 0 ∧ n = 0)) (w : World) (hC : Kd.C k23 w A l.length l) (hc : l.length ≤ c) :
    Calls Tryz.prog 22 #[.int .i64 1, .slice A l.length c, .int .i64 tm, .agg #[.int .i64 (t : Nat), .bool f, .bool ll, .int .i64 i, .int .i64 n]] w fun x w' => x = .returned (.tuple #[.string ⟨(hdB true l tm t f ll i n).toArray⟩, .string ⟨#[]⟩]) ∧ Below w.heap.size w w' := by
  have HI := Lib.hid (impl_intervals.calls (l.length + 1) 1 A c l true (w.alloc (.cells #[.int .i64 (t : Nat), .bool f, .bool ll, .int .i64 i, .int .i64 n] 42)) (C_move hC (below_alloc (Below.refl _ _) _)) hc (ints1 l (by omega) hok))
  have HC := Lib.hid hC
  have HK := Lib.hid (And.intro hok (And.intro hl (And.intro hc (And.intro htm (And.intro ht hp)))))
  have HD := Lib.hid (show D1 w #[.int .i64 (t : Nat), .bool f, .bool ll, .int .i64 i, .int .i64 n] 42 (w.alloc (.cells #[.int .i64 (t : Nat), .bool f, .bool ll, .int .i64 i, .int .i64 n] 42)) from ⟨heap_alloc_new w _, below_alloc (Below.refl w.heap.size w) _⟩)
  have HPA := Lib.hid (fun W => pane_any t f ll i n ht W)
  clear hok hl hC hc htm ht hp
  go_enter Tryz.func22, Tryz.ntmps22
  go_wp2_with (go_at_call 36; go_loud ((with_reducible refine HI.out.mono ?_); rintro e_ w1 ⟨rfl, hb⟩; have HD1 := Lib.hid (HD.out.step hb); clear hb))
  have HX := Lib.hid (show (Bf w1.heap.size w1.heap.size [] (w1.alloc (.cells #[.slice none 0 0, .int .i64 0, .int .i8 0] 105)).drew ∧ Below w1.heap.size w1 (w1.alloc (.cells #[.slice none 0 0, .int .i64 0, .int .i8 0] 105)).drew) from by
    have h0 : Below w1.heap.size w1 (w1.alloc (.cells #[.slice none 0 0, .int .i64 0, .int .i8 0] 105)).drew := below_drew (below_alloc (Below.refl _ _) _)
    have hF : Bf w1.heap.size w1.heap.size [] (w1.alloc (.cells #[.slice none 0 0, .int .i64 0, .int .i8 0] 105)) := Lib.fresh_isBuffer 105 5 w1
    exact ⟨hF.old (below_drew (Below.refl _ _)), h0⟩)
  have KD : D1 w #[.int .i64 (t : Nat), .bool f, .bool ll, .int .i64 i, .int .i64 n] 42 (w1.alloc (.cells #[.slice none 0 0, .int .i64 0, .int .i8 0] 105)).drew := HD1.out.step HX.out.2
  have K0 := D1.of5 KD
  have HKD := Lib.hid KD
  clear KD
  go_region_held3 (fun w' => w'.cell? ⟨w.heap.size, 0, none⟩ = some (.int .i64 (t : Nat)) ∧ w'.cell? ⟨w.heap.size, 1, none⟩ = some (.bool f) ∧ w'.cell? ⟨w.heap.size, 2, none⟩ = some (.bool ll) ∧ w'.cell? ⟨w.heap.size, 3, none⟩ = some (.int .i64 i) ∧ w'.cell? ⟨w.heap.size, 4, none⟩ = some (.int .i64 n) ∧ Aside0 (D1 w #[.int .i64 (t : Nat), .bool f, .bool ll, .int .i64 i, .int .i64 n] 42 w')) (assumption) (first
    | (go_at_call 39; go_loud (refine (wcoder_1 _).mono ?_; rintro e_ w2 ⟨rfl, hw⟩; have hb : Below (w1.alloc (.cells #[.slice none 0 0, .int .i64 0, .int .i8 0] 105)).drew.heap.size (w1.alloc (.cells #[.slice none 0 0, .int .i64 0, .int .i8 0] 105)).drew w2 := (by rw [hw]; exact (Below.refl _ _).alloc (Nat.le_refl _) _); have HC2 := Lib.hid (buf_next (o2 := .cells #[.string iwc, .string ⟨#[]⟩] 182) hw); have HX2 := Lib.hid (And.intro (HX.out.1.old hb) (below_then HX.out.2 HX.out.2.size hb)); have HK2 := Lib.hid (D1.step HKD.out hb); have K2 := D1.of5 HK2.out; clear hw hb))
    | (go_at_call 38; go_loud (refine (wenc_1 (w1.heap.size + 1) w2 HC2.out).mono ?_; rintro e_ w3 ⟨rfl, hw⟩; have hb : Below w2.heap.size w2 w3 := (by rw [hw]; exact (Below.refl _ _).alloc (Nat.le_refl _) _); have HX3 := Lib.hid (And.intro (HX2.out.1.old hb) (below_then HX2.out.2 HX2.out.2.size hb)); have HK3 := Lib.hid (D1.step HK2.out hb); have K3 := D1.of5 HK3.out; clear hw hb))
    | (go_at_call 48; go_loud (refine (wins_any A c l w3 (C_move HC.out HK3.out.2) HK.out.2.2.1 (by have := HK.out.2.1; omega)).mono ?_; rintro e_ w4 ⟨v, rfl, hR, hb⟩; have HX4 := Lib.hid (And.intro (HX3.out.1.old hb) (below_then HX3.out.2 HX3.out.2.size hb)); obtain ⟨A4, c4, rfl⟩ := Kd.R_slice hR; have HR4 := Lib.hid hR; have HK4 := Lib.hid (D1.step HK3.out hb); have K4 := D1.of5 HK4.out; clear hR hb))
    | (go_at_call 53; go_loud ((with_reducible refine (HPA.out _).mono ?_); rintro e_ w5 ⟨rfl, hb⟩; have HX5 := Lib.hid (And.intro (HX4.out.1.old hb) (below_then HX4.out.2 HX4.out.2.size hb)); have HR5 := Lib.hid (Kd.R_below HR4.out hb); have HK5 := Lib.hid (D1.step HK4.out hb); have K5 := D1.of5 HK5.out; clear hb))
    | (go_at_call 52; go_loud (refine (encHead_1 w1.heap.size w1.heap.size w3.heap.size w2.heap.size l HK.out.1 HK.out.2.1 A4 c4 tm HK.out.2.2.2.1 t HK.out.2.2.2.2.1 f ll i n HK.out.2.2.2.2.2 w5 HX5.out.1 HX5.out.2.size (by have := HX3.out.1.lt; exact this) HR5.out).mono ?_; rintro e_ w6 ⟨rfl, h1, h2⟩; have HK6 := Lib.hid (D1.stepB HK5.out h2 (blk_lt HD1.out.1)); have K6 := D1.of5 HK6.out; have HX6 := Lib.hid (And.intro h1 (HD1.out.2.trans ((HX5.out.2.trans h2).mono HD1.out.2.size))); clear h1 h2)))
  all_goals
    clear K0 K2 K3 K4 K5 K6
    refine (by assumption : ∀ (a : Act) (w : World), Code.wp _ _ _ a w → _) _ _ ?_
    go_wp2_with (first | (go_at_call 49; go_loud (refine (string_any _ _ _ _ HX6.out.1).mono ?_; rintro e_ w7 ⟨rfl, q, rfl⟩)) | (go_at_call 41; go_loud (refine (word_nilZ _).mono ?_; rintro e_ w8 ⟨rfl, rfl⟩)))
    go_ret2
    exact ⟨rfl, below_drewN HX6.out.2 q⟩
set_option maxHeartbeats 8000000 in
set_option maxRecDepth 100000 in
theorem encHd_0 (l : List S23) (hok : ∀ x ∈ l, okS (toS x)) (hl : l.length ≤ 20) (A : Option Addr) (c : Nat) (tm : Int) (htm : -9223372036854775808 ≤ tm ∧ tm ≤ 9223372036854775807) (t : Nat) (ht : t < 4) (f ll : Bool) (i n : Int) (hp : t = 0 → n = -1 ∨ (i = 0 ∧ n = 0)) (w : World) (hC : Kd.C k23 w A l.length l) (hc : l.length ≤ c) :
    Calls Tryz.prog 22 #[.int .i64 0, .slice A l.length c, .int .i64 tm, .agg #[.int .i64 (t : Nat), .bool f, .bool ll, .int .i64 i, .int .i64 n]] w fun x w' => x = .returned (.tuple #[.string ⟨(hdB false l tm t f ll i n).toArray⟩, .string ⟨#[]⟩]) ∧ Below w.heap.size w w' := by
  have HI := Lib.hid (impl_intervals.calls (l.length + 1) 0 A c l true (w.alloc (.cells #[.int .i64 (t : Nat), .bool f, .bool ll, .int .i64 i, .int .i64 n] 42)) (C_move hC (below_alloc (Below.refl _ _) _)) hc (ints0 l (by omega)))
  have HC := Lib.hid hC
  have HK := Lib.hid (And.intro hok (And.intro hl (And.intro hc (And.intro htm (And.intro ht hp)))))
  have HD := Lib.hid (show D1 w #[.int .i64 (t : Nat), .bool f, .bool ll, .int .i64 i, .int .i64 n] 42 (w.alloc (.cells #[.int .i64 (t : Nat), .bool f, .bool ll, .int .i64 i, .int .i64 n] 42)) from ⟨heap_alloc_new w _, below_alloc (Below.refl w.heap.size w) _⟩)
  have HPA := Lib.hid (fun W => pane_any t f ll i n ht W)
  clear hok hl hC hc htm ht hp
  go_enter Tryz.func22, Tryz.ntmps22
  go_wp2_with (go_at_call 36; go_loud ((with_reducible refine HI.out.mono ?_); rintro e_ w1 ⟨rfl, hb⟩; have HD1 := Lib.hid (HD.out.step hb); clear hb))
  have HX := Lib.hid (show (Bf w1.heap.size w1.heap.size [] (w1.alloc (.cells #[.slice none 0 0, .int .i64 0, .int .i8 0] 105)).drew ∧ Below w1.heap.size w1 (w1.alloc (.cells #[.slice none 0 0, .int .i64 0, .int .i8 0] 105)).drew) from by
    have h0 : Below w1.heap.size w1 (w1.alloc (.cells #[.slice none 0 0, .int .i64 0, .int .i8 0] 105)).drew := below_drew (below_alloc (Below.refl _ _) _)
    have hF : Bf w1.heap.size w1.heap.size [] (w1.alloc (.cells #[.slice none 0 0, .int .i64 0, .int .i8 0] 105)) := Lib.fresh_isBuffer 105 5 w1
    exact ⟨hF.old (below_drew (Below.refl _ _)), h0⟩)
  have KD : D1 w #[.int .i64 (t : Nat), .bool f, .bool ll, .int .i64 i, .int .i64 n] 42 (w1.alloc (.cells #[.slice none 0 0, .int .i64 0, .int .i8 0] 105)).drew := HD1.out.step HX.out.2
  have K0 := D1.of5 KD
  have HKD := Lib.hid KD
  clear KD
  go_region_held3 (fun w' => w'.cell? ⟨w.heap.size, 0, none⟩ = some (.int .i64 (t : Nat)) ∧ w'.cell? ⟨w.heap.size, 1, none⟩ = some (.bool f) ∧ w'.cell? ⟨w.heap.size, 2, none⟩ = some (.bool ll) ∧ w'.cell? ⟨w.heap.size, 3, none⟩ = some (.int .i64 i) ∧ w'.cell? ⟨w.heap.size, 4, none⟩ = some (.int .i64 n) ∧ Aside0 (D1 w #[.int .i64 (t : Nat), .bool f, .bool ll, .int .i64 i, .int .i64 n] 42 w')) (assumption) (first
    | (go_at_call 39; go_loud (refine (wcoder_0 _).mono ?_; rintro e_ w2 ⟨rfl, hw⟩; have hb : Below (w1.alloc (.cells #[.slice none 0 0, .int .i64 0, .int .i8 0] 105)).drew.heap.size (w1.alloc (.cells #[.slice none 0 0, .int .i64 0, .int .i8 0] 105)).drew w2 := (by rw [hw]; exact (Below.refl _ _).alloc (Nat.le_refl _) _); have HC2 := Lib.hid (buf_next (o2 := .cells #[.string gwc, .string ⟨#[]⟩] 182) hw); have HX2 := Lib.hid (And.intro (HX.out.1.old hb) (below_then HX.out.2 HX.out.2.size hb)); have HK2 := Lib.hid (D1.step HKD.out hb); have K2 := D1.of5 HK2.out; clear hw hb))
    | (go_at_call 38; go_loud (refine (wenc_0 (w1.heap.size + 1) w2 HC2.out).mono ?_; rintro e_ w3 ⟨rfl, hw⟩; have hb : Below w2.heap.size w2 w3 := (by rw [hw]; exact (Below.refl _ _).alloc (Nat.le_refl _) _); have HX3 := Lib.hid (And.intro (HX2.out.1.old hb) (below_then HX2.out.2 HX2.out.2.size hb)); have HK3 := Lib.hid (D1.step HK2.out hb); have K3 := D1.of5 HK3.out; clear hw hb))
    | (go_at_call 48; go_loud (refine (wins_any A c l w3 (C_move HC.out HK3.out.2) HK.out.2.2.1 (by have := HK.out.2.1; omega)).mono ?_; rintro e_ w4 ⟨v, rfl, hR, hb⟩; have HX4 := Lib.hid (And.intro (HX3.out.1.old hb) (below_then HX3.out.2 HX3.out.2.size hb)); obtain ⟨A4, c4, rfl⟩ := Kd.R_slice hR; have HR4 := Lib.hid hR; have HK4 := Lib.hid (D1.step HK3.out hb); have K4 := D1.of5 HK4.out; clear hR hb))
    | (go_at_call 53; go_loud ((with_reducible refine (HPA.out _).mono ?_); rintro e_ w5 ⟨rfl, hb⟩; have HX5 := Lib.hid (And.intro (HX4.out.1.old hb) (below_then HX4.out.2 HX4.out.2.size hb)); have HR5 := Lib.hid (Kd.R_below HR4.out hb); have HK5 := Lib.hid (D1.step HK4.out hb); have K5 := D1.of5 HK5.out; clear hb))
    | (go_at_call 52; go_loud (refine (encHead_0 w1.heap.size w1.heap.size w3.heap.size w2.heap.size l HK.out.1 HK.out.2.1 A4 c4 tm HK.out.2.2.2.1 t HK.out.2.2.2.2.1 f ll i n HK.out.2.2.2.2.2 w5 HX5.out.1 HX5.out.2.size (by have := HX3.out.1.lt; exact this) HR5.out).mono ?_; rintro e_ w6 ⟨rfl, h1, h2⟩; have HK6 := Lib.hid (D1.stepB HK5.out h2 (blk_lt HD1.out.1)); have K6 := D1.of5 HK6.out; have HX6 := Lib.hid (And.intro h1 (HD1.out.2.trans ((HX5.out.2.trans h2).mono HD1.out.2.size))); clear h1 h2)))
  all_goals
    clear K0 K2 K3 K4 K5 K6
    refine (by assumption : ∀ (a : Act) (w : World), Code.wp _ _ _ a w → _) _ _ ?_
    go_wp2_with (first | (go_at_call 49; go_loud (refine (string_any _ _ _ _ HX6.out.1).mono ?_; rintro e_ w7 ⟨rfl, q, rfl⟩)) | (go_at_call 41; go_loud (refine (word_nilZ _).mono ?_; rintro e_ w8 ⟨rfl, rfl⟩)))
    go_ret2
    exact ⟨rfl, below_drewN HX6.out.2 q⟩
end Go.Proofs.YtgdbeiadlgkedaaGreatDoor
set_option linter.unusedVariables false
set_option linter.unusedSimpArgs false
namespace Go.Proofs.YtgdbeiadlgkedaaGreatDoor
open Go.RowKit PFnWindowOne Go.Proofs.YtgdbeiadlgkedaaGreatDoorW.PrintWords
theorem rd32_map (l : List S23) (k : Nat) (h : k < l.length) : rd_T32 (l.map toS) (k : Int) = toS (rdN l k) := by
  rw [rd32_at _ k (by rw [List.length_map]; exact h), List.getElem_map, rdN_at l k h]
theorem atS {w : World} {A : Option Addr} {n : Nat} {l : List S23} (h : Kd.C k32 w A n (l.map toS)) (hn : n = l.length) (i : Nat) (h1 : i < n) : ∃ ad, A = some ad ∧ w.cell? (ad.add (i * 3)) = some (.bool (rdN l i).f0) ∧ w.cell? ⟨(ad.add (i * 3)).block, (ad.add (i * 3)).off + 1, none⟩ = some (.int .i64 (rdN l i).f1) ∧ w.cell? ⟨(ad.add (i * 3)).block, (ad.add (i * 3)).off + 2, none⟩ = some (.int .i64 (rdN l i).f2) := by
  obtain ⟨ad, e, h0, h1, h2⟩ := at_T32 h (i : Int) (by omega) (by omega)
  rw [rd32_map l i (by omega)] at h0 h1 h2
  exact ⟨ad, e, h0, h1, h2⟩
theorem spansCoded_0 (v : Value) (w : World) : Calls Tryz.prog 26 #[.int .i64 0, v] w fun x w' => x = .returned (.string ⟨#[0, 0, 0, 1]⟩) ∧ w' = w := by
  go_enter Tryz.func26, Tryz.ntmps26
  go_wp2
  go_ret
  exact ⟨rfl, rfl⟩
set_option maxHeartbeats 4000000 in
set_option maxRecDepth 100000 in
theorem spansCoded_1 (l : List S23) (hok : ∀ x ∈ l, okS (toS x)) (hl : l.length ≤ 20) (A : Option Addr) (c : Nat) (w : World) (hC : Kd.C k32 w A l.length (l.map toS)) (hc : l.length ≤ c) :
    Calls Tryz.prog 26 #[.int .i64 1, .slice A l.length c] w fun x w' => x = .returned (.string ⟨(Lib.beBytes 4 l.length ++ winsB l).toArray⟩) ∧ Below w.heap.size w w' := by
  have h4 := fun W => codBig4_any l.length W
  rw [show l.length % 4294967296 = l.length by omega] at h4
  have H4 := Lib.hid h4
  have HC := Lib.hid hC
  have HOK := Lib.hid hok
  have q1 : IntKind.u64.wrap (l.length : Int) = (l.length : Int) := by rw [IntKind.wrap_u64]; omega
  clear h4 hC hok
  go_enter Tryz.func26, Tryz.ntmps26
  go_wp2_with (go_at_call 46; go_loud ((with_reducible refine (H4.out _).mono ?_); rintro e_ w1 ⟨rfl, hb⟩; have HB1 := Lib.hid hb; clear hb))
  obtain ⟨s0, hs0⟩ : ∃ s0 : ByteArray, s0 = ⟨(Lib.beBytes 4 l.length).toArray⟩ := ⟨_, rfl⟩
  have HS0 : Hid (s0 = ⟨(Lib.beBytes 4 l.length ++ winsB (l.take 0)).toArray⟩) := Lib.hid (by rw [hs0, show winsB (l.take 0) = [] from rfl, List.append_nil])
  rw [← hs0]
  clear hs0 q1 H4
  go_loopg [5, 16] l.length (fun kq v5 v16 w' => ∃ (k : Nat) (s : ByteArray), k ≤ l.length ∧ Aside0 (kq = l.length - k) ∧ v5 = .string s ∧ v16 = .int .i64 k ∧ Hid (s = ⟨(Lib.beBytes 4 l.length ++ winsB (l.take k)).toArray⟩) ∧ Hid (Below w.heap.size w w'))
  case atStart => exact ⟨0, s0, Nat.zero_le _, ⟨by simp⟩, rfl, rfl, HS0, HB1⟩
  case round =>
    clear HB1 HS0
    obtain ⟨k, s, hk, hq, rfl, rfl, HS, HB⟩ := hrel
    by_cases hlt : k < l.length
    · obtain ⟨ad, e104, hx0, hx1, hx2⟩ := atS HC.out rfl k hlt
      cases e104
      replace hx0 := (HB.out.cell (World.block_lt_of_cell? w _ hx0)).trans hx0
      replace hx1 := (HB.out.cell (World.block_lt_of_cell? w _ hx1)).trans hx1
      replace hx2 := (HB.out.cell (World.block_lt_of_cell? w _ hx2)).trans hx2
      have hmem : rdN l k ∈ l := by rw [rdN_at l k hlt]; exact List.getElem_mem hlt
      have hgood := HOK.out _ hmem
      have HSC := Lib.hid (fun W => spanCoded_1 (rdN l k).f0 (rdN l k).f1 (rdN l k).f2 W (by have := hgood.2; simp only [toS] at this; omega) (by have := hgood.2; simp only [toS] at this; omega))
      obtain ⟨s1, hs1⟩ : ∃ s1 : ByteArray, s1 = ⟨(wbytes (rdN l k).f1 (rdN l k).f2).toArray⟩ := ⟨_, rfl⟩
      rw [← hs1] at HSC
      have z1 : s1.size ≤ 18 := by rw [hs1]; have := wbytes_len (rdN l k).f1 (rdN l k).f2; exact this
      have z0 : s.size ≤ 400 := by
        rw [HS.out]
        have h1 := winsB_len (l.take k)
        have h2 : (Lib.beBytes 4 l.length ++ winsB (l.take k)).length ≤ 400 := by rw [List.length_take] at h1; rw [List.length_append, Lib.beBytes_length]; omega
        exact h2
      have hadd := add_strZ s s1 (by omega) (by omega)
      obtain ⟨s2, hs2⟩ : ∃ s2, s2 = s ++ s1 := ⟨_, rfl⟩
      rw [← hs2] at hadd
      have HS2 := Lib.hid (show s2 = ⟨(Lib.beBytes 4 l.length ++ winsB (l.take (k + 1))).toArray⟩ by
        rw [hs2, HS.out, hs1, winsB_snoc l k hlt]; apply str_ext0; rw [ByteArray.data_append]; simp)
      clear hgood hmem hs1 z0 z1 hs2 HS
      go_wp2_with (first
        | ((with_reducible refine gate_dst (N := 7) rfl ?_); refine box_event ?hg (N := 7) ?hd (cs := #[.bool false, .int .i64 0, .int .i64 0]) (t := 32) ?hr ?_; (case hd => rfl); (case hg => rfl); (case hr => first | (go_simp; done) | (go_simp; rfl)); intro gb hg w6 hbox hb; have n1_ := Lib.hid (below_step (by repeat (first | (with_reducible first | exact HB.out | apply below_alloc | apply pw_below_drewN | apply below_drew1) | exact HB.out)) hb); have GE := Lib.hid ((by rw [hg]; exact (below_size HB.out)) : w.heap.size ≤ gb); have BK := Lib.hid hbox; clear HB; have HB := n1_; clear n1_; clear hb hbox hg; have hcz_0 : w6.cell? ⟨gb, 0, none⟩ = some (.bool false) := (blk_cell BK.out 0).trans rfl; have hfz_0 := blk_frozen BK.out 0; have hcz_1 : w6.cell? ⟨gb, 1, none⟩ = some (.int .i64 0) := (blk_cell BK.out 1).trans rfl; have hfz_1 := blk_frozen BK.out 1; have hcz_2 : w6.cell? ⟨gb, 2, none⟩ = some (.int .i64 0) := (blk_cell BK.out 2).trans rfl; have hfz_2 := blk_frozen BK.out 2)
        | (go_at_call 14; (with_reducible refine (HSC.out _).mono ?_); rintro e_ w7 ⟨rfl, hb7⟩; have n1_ := Lib.hid (below_then (by repeat (first | (with_reducible first | exact HB.out | apply below_alloc | apply pw_below_drewN | apply below_drew1 | refine below_set ?_ GE.out) | exact HB.out)) (below_size (by repeat (first | (with_reducible first | exact HB.out | apply below_alloc | apply pw_below_drewN | apply below_drew1 | refine below_set ?_ GE.out) | exact HB.out))) hb7); clear BK HB hb7; have HB := n1_; clear n1_))
      go_roundg (l.length - (k + 1))
      case measure => have := hq.out; omega
      case rel => exact ⟨k + 1, s2, by omega, ⟨rfl⟩, rfl, by go_num, HS2, HB⟩
    · have hkl : k = l.length := by omega
      subst hkl
      go_wp2
      go_ret
      have := HS.out
      rw [List.take_length] at this
      exact ⟨ret_strZ this, HB.out⟩
end Go.Proofs.YtgdbeiadlgkedaaGreatDoor
namespace Go.Proofs.YtgdbeiadlgkedaaGreatDoor.PFnHeaderBack
open Go.RowKit Go.Proofs.YtgdbeiadlgkedaaGreatDoorW.PrintWords Go.Proofs.YtgdbeiadlgkedaaGreatDoorW.PrintLast Go.Proofs.YtgdbeiadlgkedaaGreatDoorW.PrintMore
attribute [local go_sem] max2_int min2_int max_two min_two max_three min_three max_four min_four
set_option linter.unusedVariables false
set_option linter.unusedSimpArgs false
def errW : Option Int → Value
  | none => .nilIface
  | some c => .iface 0 (.int .i64 c)
theorem errW_none : errW none = .nilIface := rfl
theorem errW_some (c : Int) : errW (some c) = .iface 0 (.int .i64 c) := rfl
theorem info32 : (Tryz.prog.info? 32).map (fun i => (i.zero, i.size, i.bytes)) = some (some (.agg #[(.bool false), (.int .i64 0), (.int .i64 0)]), 3, 24) := by kernel_rfl
structure S23 where
  f0 : Bool
  f1 : Int
  f2 : Int
def z23 : S23 := ⟨false, (0 : Int), (0 : Int)⟩
def k23 : Kd S23 := Kd.iso (Kd.pair Kd.bool (Kd.pair (Kd.int .i64) (Kd.int .i64))) (fun x : S23 => (x.f0, x.f1, x.f2))
theorem k23_open {w : World} {x : S23} {cs : List Value} (h : k23.K w x cs) : cs = [.bool x.f0, .int .i64 x.f1, .int .i64 x.f2] := by
  obtain ⟨_, _, rfl, rfl, ⟨_, _, rfl, rfl, rfl⟩⟩ := h
  exact rfl
theorem k23_mkM (w : World) (base : Nat) (ok : Nat → Prop) (x : S23)  : k23.M w base ok x [.bool x.f0, .int .i64 x.f1, .int .i64 x.f2] := ⟨[.bool x.f0], [.int .i64 x.f1, .int .i64 x.f2], rfl, rfl, ⟨[.int .i64 x.f1], [.int .i64 x.f2], rfl, rfl, rfl⟩⟩
def rd_T23 (xs : List S23) (i : Int) : S23 := xs.getD i.toNat z23
theorem at_T23 {w : World} {A : Option Addr} {n : Nat} {xs : List S23} (h : Kd.C k23 w A n xs) (i : Int) (h0 : 0 ≤ i) (h1 : i < n) : ∃ ad , A = some ad ∧ w.cell? (ad.add (i.toNat * 3)) = some (.bool (rd_T23 xs i).f0) ∧ w.cell? ⟨(ad.add (i.toNat * 3)).block, (ad.add (i.toNat * 3)).off + 1, none⟩ = some (.int .i64 (rd_T23 xs i).f1) ∧ w.cell? ⟨(ad.add (i.toNat * 3)).block, (ad.add (i.toNat * 3)).off + 2, none⟩ = some (.int .i64 (rd_T23 xs i).f2) := by
  obtain ⟨ad, c, e, _, hK, hc0⟩ := Kd.C_get h z23 i h0 h1
  have hc : ∀ j u, c[j]? = some u → w.cell? (ad.add (i.toNat * 3 + j)) = some u := hc0
  obtain rfl := k23_open hK
  exact ⟨ad, e, hc 0 _ rfl, by rw [← add_field _ _ 1 (by omega)]; exact hc 1 _ rfl, by rw [← add_field _ _ 2 (by omega)]; exact hc 2 _ rfl⟩
structure S32 where
  f0 : Bool
  f1 : Int
  f2 : Int
def z32 : S32 := ⟨false, (0 : Int), (0 : Int)⟩
def k32 : Kd S32 := Kd.iso (Kd.pair Kd.bool (Kd.pair (Kd.int .i64) (Kd.int .i64))) (fun x : S32 => (x.f0, x.f1, x.f2))
theorem k32_open {w : World} {x : S32} {cs : List Value} (h : k32.K w x cs) : cs = [.bool x.f0, .int .i64 x.f1, .int .i64 x.f2] := by
  obtain ⟨_, _, rfl, rfl, ⟨_, _, rfl, rfl, rfl⟩⟩ := h
  exact rfl
theorem k32_mkM (w : World) (base : Nat) (ok : Nat → Prop) (x : S32)  : k32.M w base ok x [.bool x.f0, .int .i64 x.f1, .int .i64 x.f2] := ⟨[.bool x.f0], [.int .i64 x.f1, .int .i64 x.f2], rfl, rfl, ⟨[.int .i64 x.f1], [.int .i64 x.f2], rfl, rfl, rfl⟩⟩
def rd_T32 (xs : List S32) (i : Int) : S32 := xs.getD i.toNat z32
theorem at_T32 {w : World} {A : Option Addr} {n : Nat} {xs : List S32} (h : Kd.C k32 w A n xs) (i : Int) (h0 : 0 ≤ i) (h1 : i < n) : ∃ ad , A = some ad ∧ w.cell? (ad.add (i.toNat * 3)) = some (.bool (rd_T32 xs i).f0) ∧ w.cell? ⟨(ad.add (i.toNat * 3)).block, (ad.add (i.toNat * 3)).off + 1, none⟩ = some (.int .i64 (rd_T32 xs i).f1) ∧ w.cell? ⟨(ad.add (i.toNat * 3)).block, (ad.add (i.toNat * 3)).off + 2, none⟩ = some (.int .i64 (rd_T32 xs i).f2) := by
  obtain ⟨ad, c, e, _, hK, hc0⟩ := Kd.C_get h z32 i h0 h1
  have hc : ∀ j u, c[j]? = some u → w.cell? (ad.add (i.toNat * 3 + j)) = some u := hc0
  obtain rfl := k32_open hK
  exact ⟨ad, e, hc 0 _ rfl, by rw [← add_field _ _ 1 (by omega)]; exact hc 1 _ rfl, by rw [← add_field _ _ 2 (by omega)]; exact hc 2 _ rfl⟩
end Go.Proofs.YtgdbeiadlgkedaaGreatDoor.PFnHeaderBack
set_option linter.unusedVariables false
set_option linter.unusedSimpArgs false
namespace Go.Proofs.YtgdbeiadlgkedaaGreatDoor.PFnHeaderBack
open Go.RowKit Go.Proofs.YtgdbeiadlgkedaaGreatDoorW.PrintWords Go.Proofs.YtgdbeiadlgkedaaGreatDoorW.PrintLast Go.Proofs.YtgdbeiadlgkedaaGreatDoorW.PrintMore
def spec_CodSpanTime.f (a0 : Int) : Option (Bool) := if a0 ≥ (-9223372036854775) then (some (decide (a0 ≤ 9223372036854775))) else (some false)
set_option maxHeartbeats 8000000 in
set_option maxRecDepth 100000 in
theorem spec_CodSpanTime.calls (a0 : Int) (r : Bool) (w : World) (h : spec_CodSpanTime.f a0 = some r) :
    Calls Tryz.prog 30 #[.int .i64 a0] w fun e w' => e = .returned (.bool r) ∧ Drawn0 w w' := by
  have H : (if a0 ≥ (-9223372036854775) then (some (decide (a0 ≤ 9223372036854775))) else (some false)) = some r := h
  clear h
  by_cases c2 : a0 ≥ (-9223372036854775)
  · rw [if_pos c2] at H
    have c2b0 : decide ((-9223372036854775) ≤ a0) = true := decide_eq_true c2
    clear c2
    obtain rfl := Option.some.inj H
    go_enter Tryz.func30, Tryz.ntmps30
    go_wp2
    go_ret
    exact ⟨by first | rfl | (simp; done) | (simp [*]; done), by repeat (first | exact Drawn0.refl _ | apply Drawn0.step)⟩
  · rw [if_neg c2] at H
    have c2b0 : decide ((-9223372036854775) ≤ a0) = false := decide_eq_false c2
    clear c2
    obtain rfl := Option.some.inj H
    go_enter Tryz.func30, Tryz.ntmps30
    go_wp2
    go_ret
    exact ⟨by first | rfl | (simp; done) | (simp [*]; done), by repeat (first | exact Drawn0.refl _ | apply Drawn0.step)⟩
def spec_CodPaneIs.f (a0_0 : Int) (a0_1 : Bool) (a0_2 : Bool) (a0_3 : Int) (a0_4 : Int) : Option (Bool) := if a0_0 ≥ 0 then (if a0_0 ≤ 3 then (if a0_0 = 0 then (if a0_4 = (-1) then (some true) else (if a0_3 = 0 then (some (a0_4 == 0)) else (some false))) else (some true)) else (some false)) else (some false)
set_option maxHeartbeats 8000000 in
set_option maxRecDepth 100000 in
theorem spec_CodPaneIs.calls (a0_0 : Int) (a0_1 : Bool) (a0_2 : Bool) (a0_3 : Int) (a0_4 : Int) (r : Bool) (w : World) (h : spec_CodPaneIs.f a0_0 a0_1 a0_2 a0_3 a0_4 = some r) :
    Calls Tryz.prog 51 #[.agg #[.int .i64 a0_0, .bool a0_1, .bool a0_2, .int .i64 a0_3, .int .i64 a0_4]] w fun e w' => e = .returned (.bool r) ∧ Below w.heap.size w w' := by
  have hu50 := Tryz.underlying50
  have HB := Aside0.mk (Below.refl w.heap.size w)
  have H : (if a0_0 ≥ 0 then (if a0_0 ≤ 3 then (if a0_0 = 0 then (if a0_4 = (-1) then (some true) else (if a0_3 = 0 then (some (a0_4 == 0)) else (some false))) else (some true)) else (some false)) else (some false)) = some r := h
  clear h
  by_cases c2 : a0_0 ≥ 0
  · rw [if_pos c2] at H
    have c2b0 : decide (0 ≤ a0_0) = true := decide_eq_true c2
    clear c2
    by_cases c3 : a0_0 ≤ 3
    · rw [if_pos c3] at H
      have c3b0 : decide (a0_0 ≤ 3) = true := decide_eq_true c3
      clear c3
      by_cases c4 : a0_0 = 0
      · rw [if_pos c4] at H
        have c4b0 : (a0_0 == 0) = true := beq_iff_eq.mpr c4
        have c4b1 : (a0_0 != 0) = false := bne_eq_false_iff_eq.mpr c4
        clear c4
        by_cases c5 : a0_4 = (-1)
        · rw [if_pos c5] at H
          have c5b0 : (a0_4 == (-1)) = true := beq_iff_eq.mpr c5
          have c5b1 : (a0_4 != (-1)) = false := bne_eq_false_iff_eq.mpr c5
          clear c5
          obtain rfl := Option.some.inj H
          go_enter Tryz.func51, Tryz.ntmps51
          go_wp2_with (first | ((with_reducible refine gate_dst (N := 1) rfl ?_); refine box_event ?hg (N := 1) ?hd (cs := #[.int .i64 a0_0, .bool a0_1, .bool a0_2, .int .i64 a0_3, .int .i64 a0_4]) (t := 50) ?hr ?_; (case hd => rfl); (case hg => rfl); (case hr => first | (go_simp; done) | (go_simp; rfl)); intro gb135 hg w6 hbox hb; have n0_ := Aside0.mk (below_step (by repeat (first | (with_reducible first | exact HB.out | apply below_alloc | apply pw_below_drewN | apply below_drew1) | exact HB.out)) hb); have n1_ := Aside0.mk (hbox); have n2_ := Aside0.mk ((by rw [hg]; exact (below_size (by repeat (first | (with_reducible first | exact HB.out | apply below_alloc | apply pw_below_drewN | apply below_drew1) | exact HB.out))) : w.heap.size ≤ gb135)); have n3_ := Aside0.mk ((by rw [hg]; exact (below_size (by repeat (first | (with_reducible first | exact HB.out | apply below_alloc | apply pw_below_drewN | apply below_drew1) | exact HB.out))) : w.heap.size ≤ gb135)); clear HB; have HB := n0_; have BK135 := n1_; have GW135 := n2_; have GE135 := n3_; clear n0_ n1_ n2_ n3_; clear hb hbox hg; have hcz7_0 : w6.cell? ⟨gb135, 0, none⟩ = some (.int .i64 a0_0) := (blk_cell BK135.out 0).trans rfl; have hcz7_1 : w6.cell? ⟨gb135, 1, none⟩ = some (.bool a0_1) := (blk_cell BK135.out 1).trans rfl; have hcz7_2 : w6.cell? ⟨gb135, 2, none⟩ = some (.bool a0_2) := (blk_cell BK135.out 2).trans rfl; have hcz7_3 : w6.cell? ⟨gb135, 3, none⟩ = some (.int .i64 a0_3) := (blk_cell BK135.out 3).trans rfl; have hcz7_4 : w6.cell? ⟨gb135, 4, none⟩ = some (.int .i64 a0_4) := (blk_cell BK135.out 4).trans rfl; have hfz7_0 := blk_frozen BK135.out 0; have hfz7_1 := blk_frozen BK135.out 1; have hfz7_2 := blk_frozen BK135.out 2; have hfz7_3 := blk_frozen BK135.out 3; have hfz7_4 := blk_frozen BK135.out 4))
          go_ret
          exact ⟨by first | rfl | (simp [errW_none, errW_some] <;> rfl) | (simp [*, errW_none, errW_some] <;> rfl), by repeat (first | (with_reducible first | exact HB.out | apply below_alloc | apply pw_below_drewN | apply below_drew1 | refine below_set ?_ GE135.out) | exact HB.out)⟩
        · rw [if_neg c5] at H
          have c5b0 : (a0_4 == (-1)) = false := beq_eq_false_iff_ne.mpr c5
          have c5b1 : (a0_4 != (-1)) = true := bne_iff_ne.mpr c5
          by_cases c8 : a0_3 = 0
          · rw [if_pos c8] at H
            have c8b0 : (a0_3 == 0) = true := beq_iff_eq.mpr c8
            have c8b1 : (a0_3 != 0) = false := bne_eq_false_iff_eq.mpr c8
            clear c8
            obtain rfl := Option.some.inj H
            go_enter Tryz.func51, Tryz.ntmps51
            go_wp2_with (first | ((with_reducible refine gate_dst (N := 1) rfl ?_); refine box_event ?hg (N := 1) ?hd (cs := #[.int .i64 a0_0, .bool a0_1, .bool a0_2, .int .i64 a0_3, .int .i64 a0_4]) (t := 50) ?hr ?_; (case hd => rfl); (case hg => rfl); (case hr => first | (go_simp; done) | (go_simp; rfl)); intro gb135 hg w9 hbox hb; have n0_ := Aside0.mk (below_step (by repeat (first | (with_reducible first | exact HB.out | apply below_alloc | apply pw_below_drewN | apply below_drew1) | exact HB.out)) hb); have n1_ := Aside0.mk (hbox); have n2_ := Aside0.mk ((by rw [hg]; exact (below_size (by repeat (first | (with_reducible first | exact HB.out | apply below_alloc | apply pw_below_drewN | apply below_drew1) | exact HB.out))) : w.heap.size ≤ gb135)); have n3_ := Aside0.mk ((by rw [hg]; exact (below_size (by repeat (first | (with_reducible first | exact HB.out | apply below_alloc | apply pw_below_drewN | apply below_drew1) | exact HB.out))) : w.heap.size ≤ gb135)); clear HB; have HB := n0_; have BK135 := n1_; have GW135 := n2_; have GE135 := n3_; clear n0_ n1_ n2_ n3_; clear hb hbox hg; have hcz10_0 : w9.cell? ⟨gb135, 0, none⟩ = some (.int .i64 a0_0) := (blk_cell BK135.out 0).trans rfl; have hcz10_1 : w9.cell? ⟨gb135, 1, none⟩ = some (.bool a0_1) := (blk_cell BK135.out 1).trans rfl; have hcz10_2 : w9.cell? ⟨gb135, 2, none⟩ = some (.bool a0_2) := (blk_cell BK135.out 2).trans rfl; have hcz10_3 : w9.cell? ⟨gb135, 3, none⟩ = some (.int .i64 a0_3) := (blk_cell BK135.out 3).trans rfl; have hcz10_4 : w9.cell? ⟨gb135, 4, none⟩ = some (.int .i64 a0_4) := (blk_cell BK135.out 4).trans rfl; have hfz10_0 := blk_frozen BK135.out 0; have hfz10_1 := blk_frozen BK135.out 1; have hfz10_2 := blk_frozen BK135.out 2; have hfz10_3 := blk_frozen BK135.out 3; have hfz10_4 := blk_frozen BK135.out 4))
            go_ret
            exact ⟨by first | rfl | (simp [errW_none, errW_some] <;> rfl) | (simp [*, errW_none, errW_some] <;> rfl), by repeat (first | (with_reducible first | exact HB.out | apply below_alloc | apply pw_below_drewN | apply below_drew1 | refine below_set ?_ GE135.out) | exact HB.out)⟩
          · rw [if_neg c8] at H
            have c8b0 : (a0_3 == 0) = false := beq_eq_false_iff_ne.mpr c8
            have c8b1 : (a0_3 != 0) = true := bne_iff_ne.mpr c8
            obtain rfl := Option.some.inj H
            go_enter Tryz.func51, Tryz.ntmps51
            go_wp2_with (first | ((with_reducible refine gate_dst (N := 1) rfl ?_); refine box_event ?hg (N := 1) ?hd (cs := #[.int .i64 a0_0, .bool a0_1, .bool a0_2, .int .i64 a0_3, .int .i64 a0_4]) (t := 50) ?hr ?_; (case hd => rfl); (case hg => rfl); (case hr => first | (go_simp; done) | (go_simp; rfl)); intro gb135 hg w11 hbox hb; have n0_ := Aside0.mk (below_step (by repeat (first | (with_reducible first | exact HB.out | apply below_alloc | apply pw_below_drewN | apply below_drew1) | exact HB.out)) hb); have n1_ := Aside0.mk (hbox); have n2_ := Aside0.mk ((by rw [hg]; exact (below_size (by repeat (first | (with_reducible first | exact HB.out | apply below_alloc | apply pw_below_drewN | apply below_drew1) | exact HB.out))) : w.heap.size ≤ gb135)); have n3_ := Aside0.mk ((by rw [hg]; exact (below_size (by repeat (first | (with_reducible first | exact HB.out | apply below_alloc | apply pw_below_drewN | apply below_drew1) | exact HB.out))) : w.heap.size ≤ gb135)); clear HB; have HB := n0_; have BK135 := n1_; have GW135 := n2_; have GE135 := n3_; clear n0_ n1_ n2_ n3_; clear hb hbox hg; have hcz12_0 : w11.cell? ⟨gb135, 0, none⟩ = some (.int .i64 a0_0) := (blk_cell BK135.out 0).trans rfl; have hcz12_1 : w11.cell? ⟨gb135, 1, none⟩ = some (.bool a0_1) := (blk_cell BK135.out 1).trans rfl; have hcz12_2 : w11.cell? ⟨gb135, 2, none⟩ = some (.bool a0_2) := (blk_cell BK135.out 2).trans rfl; have hcz12_3 : w11.cell? ⟨gb135, 3, none⟩ = some (.int .i64 a0_3) := (blk_cell BK135.out 3).trans rfl; have hcz12_4 : w11.cell? ⟨gb135, 4, none⟩ = some (.int .i64 a0_4) := (blk_cell BK135.out 4).trans rfl; have hfz12_0 := blk_frozen BK135.out 0; have hfz12_1 := blk_frozen BK135.out 1; have hfz12_2 := blk_frozen BK135.out 2; have hfz12_3 := blk_frozen BK135.out 3; have hfz12_4 := blk_frozen BK135.out 4))
            go_ret
            exact ⟨by first | rfl | (simp [errW_none, errW_some] <;> rfl) | (simp [*, errW_none, errW_some] <;> rfl), by repeat (first | (with_reducible first | exact HB.out | apply below_alloc | apply pw_below_drewN | apply below_drew1 | refine below_set ?_ GE135.out) | exact HB.out)⟩
      · rw [if_neg c4] at H
        have c4b0 : (a0_0 == 0) = false := beq_eq_false_iff_ne.mpr c4
        have c4b1 : (a0_0 != 0) = true := bne_iff_ne.mpr c4
        obtain rfl := Option.some.inj H
        go_enter Tryz.func51, Tryz.ntmps51
        go_wp2_with (first | ((with_reducible refine gate_dst (N := 1) rfl ?_); refine box_event ?hg (N := 1) ?hd (cs := #[.int .i64 a0_0, .bool a0_1, .bool a0_2, .int .i64 a0_3, .int .i64 a0_4]) (t := 50) ?hr ?_; (case hd => rfl); (case hg => rfl); (case hr => first | (go_simp; done) | (go_simp; rfl)); intro gb135 hg w13 hbox hb; have n0_ := Aside0.mk (below_step (by repeat (first | (with_reducible first | exact HB.out | apply below_alloc | apply pw_below_drewN | apply below_drew1) | exact HB.out)) hb); have n1_ := Aside0.mk (hbox); have n2_ := Aside0.mk ((by rw [hg]; exact (below_size (by repeat (first | (with_reducible first | exact HB.out | apply below_alloc | apply pw_below_drewN | apply below_drew1) | exact HB.out))) : w.heap.size ≤ gb135)); have n3_ := Aside0.mk ((by rw [hg]; exact (below_size (by repeat (first | (with_reducible first | exact HB.out | apply below_alloc | apply pw_below_drewN | apply below_drew1) | exact HB.out))) : w.heap.size ≤ gb135)); clear HB; have HB := n0_; have BK135 := n1_; have GW135 := n2_; have GE135 := n3_; clear n0_ n1_ n2_ n3_; clear hb hbox hg; have hcz14_0 : w13.cell? ⟨gb135, 0, none⟩ = some (.int .i64 a0_0) := (blk_cell BK135.out 0).trans rfl; have hcz14_1 : w13.cell? ⟨gb135, 1, none⟩ = some (.bool a0_1) := (blk_cell BK135.out 1).trans rfl; have hcz14_2 : w13.cell? ⟨gb135, 2, none⟩ = some (.bool a0_2) := (blk_cell BK135.out 2).trans rfl; have hcz14_3 : w13.cell? ⟨gb135, 3, none⟩ = some (.int .i64 a0_3) := (blk_cell BK135.out 3).trans rfl; have hcz14_4 : w13.cell? ⟨gb135, 4, none⟩ = some (.int .i64 a0_4) := (blk_cell BK135.out 4).trans rfl; have hfz14_0 := blk_frozen BK135.out 0; have hfz14_1 := blk_frozen BK135.out 1; have hfz14_2 := blk_frozen BK135.out 2; have hfz14_3 := blk_frozen BK135.out 3; have hfz14_4 := blk_frozen BK135.out 4))
        go_ret
        exact ⟨by first | rfl | (simp [errW_none, errW_some] <;> rfl) | (simp [*, errW_none, errW_some] <;> rfl), by repeat (first | (with_reducible first | exact HB.out | apply below_alloc | apply pw_below_drewN | apply below_drew1 | refine below_set ?_ GE135.out) | exact HB.out)⟩
    · rw [if_neg c3] at H
      have c3b0 : decide (a0_0 ≤ 3) = false := decide_eq_false c3
      clear c3
      obtain rfl := Option.some.inj H
      go_enter Tryz.func51, Tryz.ntmps51
      go_wp2_with (first | ((with_reducible refine gate_dst (N := 1) rfl ?_); refine box_event ?hg (N := 1) ?hd (cs := #[.int .i64 a0_0, .bool a0_1, .bool a0_2, .int .i64 a0_3, .int .i64 a0_4]) (t := 50) ?hr ?_; (case hd => rfl); (case hg => rfl); (case hr => first | (go_simp; done) | (go_simp; rfl)); intro gb135 hg w15 hbox hb; have n0_ := Aside0.mk (below_step (by repeat (first | (with_reducible first | exact HB.out | apply below_alloc | apply pw_below_drewN | apply below_drew1) | exact HB.out)) hb); have n1_ := Aside0.mk (hbox); have n2_ := Aside0.mk ((by rw [hg]; exact (below_size (by repeat (first | (with_reducible first | exact HB.out | apply below_alloc | apply pw_below_drewN | apply below_drew1) | exact HB.out))) : w.heap.size ≤ gb135)); have n3_ := Aside0.mk ((by rw [hg]; exact (below_size (by repeat (first | (with_reducible first | exact HB.out | apply below_alloc | apply pw_below_drewN | apply below_drew1) | exact HB.out))) : w.heap.size ≤ gb135)); clear HB; have HB := n0_; have BK135 := n1_; have GW135 := n2_; have GE135 := n3_; clear n0_ n1_ n2_ n3_; clear hb hbox hg; have hcz16_0 : w15.cell? ⟨gb135, 0, none⟩ = some (.int .i64 a0_0) := (blk_cell BK135.out 0).trans rfl; have hcz16_1 : w15.cell? ⟨gb135, 1, none⟩ = some (.bool a0_1) := (blk_cell BK135.out 1).trans rfl; have hcz16_2 : w15.cell? ⟨gb135, 2, none⟩ = some (.bool a0_2) := (blk_cell BK135.out 2).trans rfl; have hcz16_3 : w15.cell? ⟨gb135, 3, none⟩ = some (.int .i64 a0_3) := (blk_cell BK135.out 3).trans rfl; have hcz16_4 : w15.cell? ⟨gb135, 4, none⟩ = some (.int .i64 a0_4) := (blk_cell BK135.out 4).trans rfl; have hfz16_0 := blk_frozen BK135.out 0; have hfz16_1 := blk_frozen BK135.out 1; have hfz16_2 := blk_frozen BK135.out 2; have hfz16_3 := blk_frozen BK135.out 3; have hfz16_4 := blk_frozen BK135.out 4))
      go_ret
      exact ⟨by first | rfl | (simp [errW_none, errW_some] <;> rfl) | (simp [*, errW_none, errW_some] <;> rfl), by repeat (first | (with_reducible first | exact HB.out | apply below_alloc | apply pw_below_drewN | apply below_drew1 | refine below_set ?_ GE135.out) | exact HB.out)⟩
  · rw [if_neg c2] at H
    have c2b0 : decide (0 ≤ a0_0) = false := decide_eq_false c2
    clear c2
    obtain rfl := Option.some.inj H
    go_enter Tryz.func51, Tryz.ntmps51
    go_wp2_with (first | ((with_reducible refine gate_dst (N := 1) rfl ?_); refine box_event ?hg (N := 1) ?hd (cs := #[.int .i64 a0_0, .bool a0_1, .bool a0_2, .int .i64 a0_3, .int .i64 a0_4]) (t := 50) ?hr ?_; (case hd => rfl); (case hg => rfl); (case hr => first | (go_simp; done) | (go_simp; rfl)); intro gb135 hg w17 hbox hb; have n0_ := Aside0.mk (below_step (by repeat (first | (with_reducible first | exact HB.out | apply below_alloc | apply pw_below_drewN | apply below_drew1) | exact HB.out)) hb); have n1_ := Aside0.mk (hbox); have n2_ := Aside0.mk ((by rw [hg]; exact (below_size (by repeat (first | (with_reducible first | exact HB.out | apply below_alloc | apply pw_below_drewN | apply below_drew1) | exact HB.out))) : w.heap.size ≤ gb135)); have n3_ := Aside0.mk ((by rw [hg]; exact (below_size (by repeat (first | (with_reducible first | exact HB.out | apply below_alloc | apply pw_below_drewN | apply below_drew1) | exact HB.out))) : w.heap.size ≤ gb135)); clear HB; have HB := n0_; have BK135 := n1_; have GW135 := n2_; have GE135 := n3_; clear n0_ n1_ n2_ n3_; clear hb hbox hg; have hcz18_0 : w17.cell? ⟨gb135, 0, none⟩ = some (.int .i64 a0_0) := (blk_cell BK135.out 0).trans rfl; have hcz18_1 : w17.cell? ⟨gb135, 1, none⟩ = some (.bool a0_1) := (blk_cell BK135.out 1).trans rfl; have hcz18_2 : w17.cell? ⟨gb135, 2, none⟩ = some (.bool a0_2) := (blk_cell BK135.out 2).trans rfl; have hcz18_3 : w17.cell? ⟨gb135, 3, none⟩ = some (.int .i64 a0_3) := (blk_cell BK135.out 3).trans rfl; have hcz18_4 : w17.cell? ⟨gb135, 4, none⟩ = some (.int .i64 a0_4) := (blk_cell BK135.out 4).trans rfl; have hfz18_0 := blk_frozen BK135.out 0; have hfz18_1 := blk_frozen BK135.out 1; have hfz18_2 := blk_frozen BK135.out 2; have hfz18_3 := blk_frozen BK135.out 3; have hfz18_4 := blk_frozen BK135.out 4))
    go_ret
    exact ⟨by first | rfl | (simp [errW_none, errW_some] <;> rfl) | (simp [*, errW_none, errW_some] <;> rfl), by repeat (first | (with_reducible first | exact HB.out | apply below_alloc | apply pw_below_drewN | apply below_drew1 | refine below_set ?_ GE135.out) | exact HB.out)⟩
end Go.Proofs.YtgdbeiadlgkedaaGreatDoor.PFnHeaderBack
