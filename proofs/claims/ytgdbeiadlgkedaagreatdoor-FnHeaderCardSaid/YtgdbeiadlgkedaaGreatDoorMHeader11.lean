/- Contracts and plain laws, several texts in one. -/
import Derived.Test.YtgdbeiadlgkedaaGreatDoorMHeader2
import Derived.Test.YtgdbeiadlgkedaaGreatDoorMHeader3
import Derived.Test.YtgdbeiadlgkedaaGreatDoorMHeader4
import Derived.Test.YtgdbeiadlgkedaaGreatDoorMHeader6
import Derived.Test.YtgdbeiadlgkedaaGreatDoorMHeader7
import Derived.Test.YtgdbeiadlgkedaaGreatDoorMHeader10
import Derived.Test.YtgdbeiadlgkedaaGreatDoorProg
import Derived.Below
import Derived.Deep.Draws
import Derived.Deep.AppendLies
import Derived.Maps.AppendAt
import Derived.OwnWalk
import Derived.Laws.BytesArg
import Derived.Laws.MakeOwn
import Derived.Laws.OwnMore
import Derived.Deep.OwnRows
import Derived.Tactics
import Derived.Lib.ConvBytes
import Derived.Laws.Slices
import Derived.WalkKit
import Derived.KernelRfl
import Derived.RowKit3
import Derived.Deep.LoopGhost
import Derived.Deep.QuietTactic
import Derived.BigQuiet
import Derived.WideLaws
import Derived.Deep.DeepCutAuto
import Derived.Deep.CutBlock
import Derived.Deep.RegionHeld3
import Derived.Laws.Rows
import Derived.Lib.AppendStr
import Derived.ArgAppend
import Derived.Laws.IdiomCopy
import Derived.OrdersHeld
import Derived.Laws.BitsLemmas
import Derived.RowKit
set_option linter.unusedVariables false
set_option linter.unusedSimpArgs false
namespace Go.Proofs.YtgdbeiadlgkedaaGreatDoor
open Go.RowKit PFnWindowOne Go.Proofs.YtgdbeiadlgkedaaGreatDoorW.PrintWords
theorem spanTime_any (t : Int) (w : World) : Calls Tryz.prog 30 #[.int .i64 t] w fun e w' => e = .returned (.bool (decide (-9223372036854775 ≤ t ∧ t ≤ 9223372036854775))) ∧ Below w.heap.size w w' := by
  refine (PFnHeaderBack.spec_CodSpanTime.calls t (decide (-9223372036854775 ≤ t ∧ t ≤ 9223372036854775)) w ?_).mono (by rintro e w' ⟨he, m, rfl⟩; exact ⟨he, below_drewN (Below.refl _ _) m⟩)
  unfold PFnHeaderBack.spec_CodSpanTime.f
  by_cases h : t ≥ -9223372036854775
  · rw [if_pos h]
    congr 1
    by_cases h2 : t ≤ 9223372036854775
    · rw [decide_eq_true h2, decide_eq_true ⟨h, h2⟩]
    · rw [decide_eq_false h2, decide_eq_false (fun q => h2 q.2)]
  · rw [if_neg h, decide_eq_false (fun q => h q.1)]
def paneOk (t i n : Int) : Prop := 0 ≤ t ∧ t ≤ 3 ∧ (t = 0 → n = -1 ∨ (i = 0 ∧ n = 0))
instance (t i n : Int) : Decidable (paneOk t i n) := by unfold paneOk; infer_instance
theorem paneIs_any (t : Int) (f l : Bool) (i n : Int) (w : World) : Calls Tryz.prog 51 #[.agg #[.int .i64 t, .bool f, .bool l, .int .i64 i, .int .i64 n]] w fun e w' => e = .returned (.bool (decide (paneOk t i n))) ∧ Below w.heap.size w w' := by
  refine PFnHeaderBack.spec_CodPaneIs.calls t f l i n _ w ?_
  unfold PFnHeaderBack.spec_CodPaneIs.f
  by_cases h0 : t ≥ 0
  · rw [if_pos h0]
    by_cases h1 : t ≤ 3
    · rw [if_pos h1]
      by_cases h2 : t = 0
      · rw [if_pos h2]
        by_cases h3 : n = -1
        · rw [if_pos h3, decide_eq_true (show paneOk t i n from ⟨h0, h1, fun _ => .inl h3⟩)]
        · rw [if_neg h3]
          by_cases h4 : i = 0
          · rw [if_pos h4]
            by_cases h5 : n = 0
            · rw [decide_eq_true (show paneOk t i n from ⟨h0, h1, fun _ => .inr ⟨h4, h5⟩⟩), h5]; rfl
            · rw [decide_eq_false (fun q : paneOk t i n => (q.2.2 h2).elim h3 (fun z => h5 z.2))]
              congr 1; exact beq_eq_false_iff_ne.2 h5
          · rw [if_neg h4, decide_eq_false (fun q : paneOk t i n => (q.2.2 h2).elim h3 (fun z => h4 z.1))]
      · rw [if_neg h2, decide_eq_true (show paneOk t i n from ⟨h0, h1, fun q => absurd q h2⟩)]
    · rw [if_neg h1, decide_eq_false (fun q : paneOk t i n => h1 q.2.1)]
  · rw [if_neg h0, decide_eq_false (fun q : paneOk t i n => h0 q.1)]
abbrev hdV (iv : Bool) (A : Option Addr) (n c : Nat) (tm t : Int) (f ll : Bool) (i k : Int) : Array Value := #[.bool iv, .slice A n c, .int .i64 tm, .int .i64 t, .bool f, .bool ll, .int .i64 i, .int .i64 k]
theorem D1.cells8 {w x : World} {v0 v1 v2 v3 v4 v5 v6 v7 : Value} {T : TypeId} (h : D1 w #[v0, v1, v2, v3, v4, v5, v6, v7] T x) : x.cell? ⟨w.heap.size, 0, none⟩ = some v0 ∧ x.cell? ⟨w.heap.size, 1, none⟩ = some v1 ∧ x.cell? ⟨w.heap.size, 2, none⟩ = some v2 ∧ x.cell? ⟨w.heap.size, 3, none⟩ = some v3 ∧ x.cell? ⟨w.heap.size, 4, none⟩ = some v4 ∧ x.cell? ⟨w.heap.size, 5, none⟩ = some v5 ∧ x.cell? ⟨w.heap.size, 6, none⟩ = some v6 ∧ x.cell? ⟨w.heap.size, 7, none⟩ = some v7 :=
  ⟨(blk_cell h.1 0).trans rfl, (blk_cell h.1 1).trans rfl, (blk_cell h.1 2).trans rfl, (blk_cell h.1 3).trans rfl, (blk_cell h.1 4).trans rfl, (blk_cell h.1 5).trans rfl, (blk_cell h.1 6).trans rfl, (blk_cell h.1 7).trans rfl⟩
theorem fits3_any (iv : Bool) (A : Option Addr) (n c : Nat) (tm t : Int) (f ll : Bool) (i k : Int) (w : World) : Calls Tryz.prog 19 #[.agg (hdV iv A n c tm t f ll i k)] w fun e w' => e = .returned (.bool (decide (n ≤ 2147483647))) ∧ Below w.heap.size w w' := by
  have HB := Lib.hid (below_alloc (Below.refl w.heap.size w) (.cells (hdV iv A n c tm t f ll i k) 44))
  by_cases h : n ≤ 2147483647
  · have h2 : ¬ 2147483647 < (n : Int) := by omega
    rw [decide_eq_true h]
    clear h
    go_enter Tryz.func19, Tryz.ntmps19
    go_wp2
    go_ret
    exact ⟨rfl, HB.out⟩
  · have h2 : 2147483647 < (n : Int) := by omega
    rw [decide_eq_false h]
    clear h
    go_enter Tryz.func19, Tryz.ntmps19
    go_wp2
    go_ret
    exact ⟨rfl, HB.out⟩
set_option maxHeartbeats 4000000 in
set_option maxRecDepth 100000 in
theorem codPaneZ (t : Int) (f l : Bool) (i n : Int) (w : World) :
    Calls Tryz.prog 24 #[.agg #[.int .i64 t, .bool f, .bool l, .int .i64 i, .int .i64 n]] w fun e w' => e = .returned (.agg #[.int .i64 t, .bool f, .bool l, .int .i64 i, .int .i64 n]) ∧ Below w.heap.size w w' := by
  go_enter Tryz.func24, Tryz.ntmps24
  go_wp2
  go_returns
  exact ⟨rfl, by repeat (first | exact Below.refl _ _ | apply below_alloc | apply below_drew | refine below_set ?_ (by simp) | (refine Below.setCell ?_ (by simp) _))⟩
def headOk (l : List S23) (tm t i k : Int) : Prop := l.length ≤ 20 ∧ (∀ x ∈ l, okS (toS x)) ∧ (-9223372036854775 ≤ tm ∧ tm ≤ 9223372036854775) ∧ paneOk t i k
set_option maxHeartbeats 4000000 in
set_option maxRecDepth 100000 in
theorem headFew_any (iv : Bool) (A : Option Addr) (c : Nat) (l : List S23) (hc : l.length ≤ c) (tm t : Int) (f ll : Bool) (i k : Int) : ∃ b : Bool, (b = true → headOk l tm t i k) ∧ ∀ w, Kd.C k23 w A l.length l → Calls Tryz.prog 20 #[.agg (hdV iv A l.length c tm t f ll i k)] w fun e w' => e = .returned (.bool b) ∧ Below w.heap.size w w' := by
  obtain ⟨bF, hf, hg⟩ := few_f l
  cases bF with
  | false =>
    refine ⟨false, (fun h => by cases h), fun w hC => ?_⟩
    have HF := Lib.hid (laws_codSpanFew.calls _ A c l false (w.alloc (.cells (hdV iv A l.length c tm t f ll i k) 44)) (C_move hC (below_alloc (Below.refl _ _) _)) hc hf)
    have HB := Lib.hid (below_alloc (Below.refl w.heap.size w) (.cells (hdV iv A l.length c tm t f ll i k) 44))
    clear hf hg hC
    go_enter Tryz.func20, Tryz.ntmps20
    go_wp2_with (go_at_call 10; go_loud ((with_reducible refine HF.out.mono ?_); rintro e_ w1 ⟨rfl, hb⟩; have HB1 := Lib.hid (below_then HB.out HB.out.size hb); clear hb))
    go_ret
    exact ⟨rfl, HB1.out⟩
  | true =>
    obtain ⟨g1, g2⟩ := hg rfl
    refine ⟨decide ((-9223372036854775 ≤ tm ∧ tm ≤ 9223372036854775) ∧ paneOk t i k), fun h => ⟨g1, g2, (of_decide_eq_true h).1, (of_decide_eq_true h).2⟩, fun w hC => ?_⟩
    have HF := Lib.hid (laws_codSpanFew.calls _ A c l true (w.alloc (.cells (hdV iv A l.length c tm t f ll i k) 44)) (C_move hC (below_alloc (Below.refl _ _) _)) hc hf)
    have HK := Lib.hid (show D1 w (hdV iv A l.length c tm t f ll i k) 44 (w.alloc (.cells (hdV iv A l.length c tm t f ll i k) 44)) from ⟨heap_alloc_new w _, below_alloc (Below.refl w.heap.size w) _⟩)
    clear hf hg hC
    by_cases h1 : -9223372036854775 ≤ tm ∧ tm ≤ 9223372036854775
    · have HS := Lib.hid (fun W => by have := spanTime_any tm W; rw [decide_eq_true h1] at this; exact this)
      have HCP := Lib.hid (fun W => codPaneZ t f ll i k W)
      have HPI := Lib.hid (fun W => paneIs_any t f ll i k W)
      have he : decide ((-9223372036854775 ≤ tm ∧ tm ≤ 9223372036854775) ∧ paneOk t i k) = decide (paneOk t i k) := by by_cases h2 : paneOk t i k <;> simp [h1, h2]
      rw [he]
      clear h1 he g1 g2
      go_enter Tryz.func20, Tryz.ntmps20
      go_wp2_with (first
        | (go_at_call 10; go_loud ((with_reducible refine HF.out.mono ?_); rintro e_ w1 ⟨rfl, hb⟩; have HK1 := Lib.hid (HK.out.step hb); have K1 := HK1.out.cells8; clear hb))
        | (go_at_call 30; go_loud ((with_reducible refine (HS.out _).mono ?_); rintro e_ w2 ⟨rfl, hb⟩; have HK2 := Lib.hid (HK1.out.step hb); clear K1; have K2 := HK2.out.cells8; clear hb))
        | (go_at_call 24; go_loud ((with_reducible refine (HCP.out _).mono ?_); rintro e_ w3 ⟨rfl, hb⟩; have HK3 := Lib.hid (HK2.out.step hb); clear K2; clear hb))
        | (go_at_call 51; go_loud ((with_reducible refine (HPI.out _).mono ?_); rintro e_ w4 ⟨rfl, hb⟩; have HK4 := Lib.hid (HK3.out.step hb); clear hb)))
      go_ret
      exact ⟨rfl, HK4.out.2⟩
    · have HS := Lib.hid (fun W => by have := spanTime_any tm W; rw [decide_eq_false h1] at this; exact this)
      rw [decide_eq_false (fun q => h1 q.1)]
      clear h1 g1 g2
      go_enter Tryz.func20, Tryz.ntmps20
      go_wp2_with (first
        | (go_at_call 10; go_loud ((with_reducible refine HF.out.mono ?_); rintro e_ w1 ⟨rfl, hb⟩; have HK1 := Lib.hid (HK.out.step hb); have K1 := HK1.out.cells8; clear hb))
        | (go_at_call 30; go_loud ((with_reducible refine (HS.out _).mono ?_); rintro e_ w2 ⟨rfl, hb⟩; have HK2 := Lib.hid (HK1.out.step hb); clear K1; clear hb)))
      go_ret
      exact ⟨rfl, HK2.out.2⟩
end Go.Proofs.YtgdbeiadlgkedaaGreatDoor
set_option linter.unusedVariables false
set_option linter.unusedSimpArgs false
namespace Go.Proofs.YtgdbeiadlgkedaaGreatDoor
open Go.RowKit PFnWindowOne Go.Proofs.YtgdbeiadlgkedaaGreatDoorW.PrintWords
theorem D1.bel {w0 x : World} {cs : Array Value} {T : TypeId} (h : D1 w0 cs T x) : Below w0.heap.size w0 x := h.2
theorem pbytes_len (t : Nat) (f ll : Bool) (i n : Int) : (pbytes t f ll i n).length ≤ 21 := by
  have l1 := Lib.uvarint_length64 (u64n_lt i)
  have l2 := Lib.uvarint_length64 (u64n_lt n)
  unfold pbytes
  split
  · simp
  · split
    · simp only [List.length_cons]; omega
    · simp only [List.length_cons, List.length_append]; omega
theorem paned_any (t : Nat) (ht : t < 4) (f ll : Bool) (i n : Int) (w : World) : Calls Tryz.prog 56 #[.agg #[.int .i64 (t : Nat), .bool f, .bool ll, .int .i64 i, .int .i64 n]] w fun e w' => e = .returned (.string ⟨(pbytes t f ll i n).toArray⟩) ∧ Below w.heap.size w w' := by
  obtain ⟨k, hk⟩ := paned_some t ht f ll i n
  exact PFnHeader.spec_CodPaned.calls k _ _ _ _ _ _ w hk
theorem add_bs (a b : List UInt8) (h1 : a.length ≤ 1000) (h2 : b.length ≤ 1000) : ∀ W : World, (Op.stringOp .add ⟨a.toArray⟩ ⟨b.toArray⟩).run Tryz.prog W = .ok (.string ⟨(a ++ b).toArray⟩) W := by
  have e : (⟨a.toArray⟩ : ByteArray) ++ ⟨b.toArray⟩ = ⟨(a ++ b).toArray⟩ := by apply str_ext0; rw [ByteArray.data_append]; simp
  have := add_strZ ⟨a.toArray⟩ ⟨b.toArray⟩ (show a.toArray.size ≤ 100000 by simp; omega) (show b.toArray.size ≤ 100000 by simp; omega)
  rw [e] at this
  exact this
set_option maxHeartbeats 8000000 in
set_option maxRecDepth 100000 in
theorem headCoded_1 (l : List S23) (hok : ∀ x ∈ l, okS (toS x)) (hl : l.length ≤ 20) (A : Option Addr) (c : Nat) (tm : Int) (htm : -9223372036854775808 ≤ tm ∧ tm ≤ 9223372036854775807) (t : Nat) (ht : t < 4) (f ll : Bool) (i n : Int) (w : World) (hC : Kd.C k32 w A l.length (l.map toS)) (hc : l.length ≤ c) :
    Calls Tryz.prog 27 #[.int .i64 1, .slice A l.length c, .int .i64 tm, .agg #[.int .i64 (t : Nat), .bool f, .bool ll, .int .i64 i, .int .i64 n]] w fun x w' => x = .returned (.string ⟨(hdB true l tm t f ll i n).toArray⟩) ∧ Below w.heap.size w w' := by
  obtain ⟨U, hU⟩ : ∃ U, U = u64of tm := ⟨_, rfl⟩
  obtain ⟨V, hV⟩ : ∃ V, V = (tm + 9223372036854775808).toNat := ⟨_, rfl⟩
  have q1 := wrapU tm
  have q2 := modU tm
  have hx := xor_sign tm htm.1 htm.2
  rw [← hU] at q1 q2 hx
  rw [← hV] at hx
  have h1 := Lib.beBytes_length 8 V
  have h2 := wsB_len true l hl
  have h3 := pbytes_len t f ll i n
  have a1 := add_bs (Lib.beBytes 8 V) (wsB true l) (by omega) (by omega)
  have a2 := add_bs (Lib.beBytes 8 V ++ wsB true l) (pbytes t f ll i n) (by rw [List.length_append]; omega) (by omega)
  have hh : hdB true l tm t f ll i n = Lib.beBytes 8 V ++ wsB true l ++ pbytes t f ll i n := by rw [hV]; rfl
  rw [← hh] at a2
  have HB8 := Lib.hid (fun W => codBig8_any V W)
  have HS := Lib.hid (fun (W : World) (h : Kd.C k32 W A l.length (l.map toS)) => spansCoded_1 l hok hl A c W h hc)
  rw [show Lib.beBytes 4 l.length ++ winsB l = wsB true l from rfl] at HS
  have HC := Lib.hid hC
  have HP := Lib.hid (fun W => paned_any t ht f ll i n W)
  obtain ⟨s1, e1⟩ : ∃ s : ByteArray, s = ⟨(Lib.beBytes 8 V).toArray⟩ := ⟨_, rfl⟩
  obtain ⟨s2, e2⟩ : ∃ s : ByteArray, s = ⟨(wsB true l).toArray⟩ := ⟨_, rfl⟩
  obtain ⟨s3, e3⟩ : ∃ s : ByteArray, s = ⟨(pbytes t f ll i n).toArray⟩ := ⟨_, rfl⟩
  obtain ⟨s4, e4⟩ : ∃ s : ByteArray, s = ⟨(Lib.beBytes 8 V ++ wsB true l).toArray⟩ := ⟨_, rfl⟩
  obtain ⟨s5, e5⟩ : ∃ s : ByteArray, s = ⟨(hdB true l tm t f ll i n).toArray⟩ := ⟨_, rfl⟩
  rw [← e1, ← e2, ← e4] at a1
  rw [← e4, ← e3, ← e5] at a2
  rw [← e1] at HB8
  rw [← e2] at HS
  rw [← e3] at HP
  rw [← e5]
  have KD : D1 w #[.int .i64 (t : Nat), .bool f, .bool ll, .int .i64 i, .int .i64 n] 50 (w.alloc (.cells #[.int .i64 (t : Nat), .bool f, .bool ll, .int .i64 i, .int .i64 n] 50)).drew := ⟨heap_alloc_new w _, below_drew (below_alloc (Below.refl _ _) _)⟩
  have K0 := D1.of5 KD
  have HKD := Lib.hid KD
  clear KD hU hV hl hok hC hc htm ht h1 h2 h3 hh e1 e2 e3 e4 e5
  go_enter Tryz.func27, Tryz.ntmps27
  go_wp2
  go_region_held3 (fun w' => w'.cell? ⟨w.heap.size, 0, none⟩ = some (.int .i64 (t : Nat)) ∧ w'.cell? ⟨w.heap.size, 1, none⟩ = some (.bool f) ∧ w'.cell? ⟨w.heap.size, 2, none⟩ = some (.bool ll) ∧ w'.cell? ⟨w.heap.size, 3, none⟩ = some (.int .i64 i) ∧ w'.cell? ⟨w.heap.size, 4, none⟩ = some (.int .i64 n) ∧ Aside0 (D1 w #[.int .i64 (t : Nat), .bool f, .bool ll, .int .i64 i, .int .i64 n] 50 w')) (assumption) (first
    | (go_at_call 46; go_loud ((with_reducible refine (HB8.out _).mono ?_); rintro e_ w1 ⟨rfl, hb⟩; have HK1 := Lib.hid (D1.step HKD.out hb); have HKB1 := Lib.hid (D1.bel HK1.out); have K1 := D1.of5 HK1.out; clear hb))
    | (go_at_call 26; go_loud ((with_reducible refine (HS.out _ (Kd.C_below HC.out HKB1.out)).mono ?_); rintro e_ w2 ⟨rfl, hb⟩; have HK2 := Lib.hid (D1.step HK1.out hb); have K2 := D1.of5 HK2.out; clear hb))
    | (go_at_call 56; go_loud ((with_reducible refine (HP.out _).mono ?_); rintro e_ w3 ⟨rfl, hb⟩; have HK3 := Lib.hid (D1.step HK2.out hb); have K3 := D1.of5 HK3.out; clear hb)))
  all_goals
    have HKb := Lib.hid HK3.out.2
    clear K0 K1 K2 K3
    refine (by assumption : ∀ (a : Act) (w : World), Code.wp _ _ _ a w → _) _ _ ?_
    go_wp2
    go_ret
    exact ⟨rfl, HKb.out⟩
set_option maxHeartbeats 8000000 in
set_option maxRecDepth 100000 in
theorem headCoded_0 (l : List S23) (hl : l.length ≤ 20) (v : Value) (tm : Int) (htm : -9223372036854775808 ≤ tm ∧ tm ≤ 9223372036854775807) (t : Nat) (ht : t < 4) (f ll : Bool) (i n : Int) (w : World) :
    Calls Tryz.prog 27 #[.int .i64 0, v, .int .i64 tm, .agg #[.int .i64 (t : Nat), .bool f, .bool ll, .int .i64 i, .int .i64 n]] w fun x w' => x = .returned (.string ⟨(hdB false l tm t f ll i n).toArray⟩) ∧ Below w.heap.size w w' := by
  obtain ⟨U, hU⟩ : ∃ U, U = u64of tm := ⟨_, rfl⟩
  obtain ⟨V, hV⟩ : ∃ V, V = (tm + 9223372036854775808).toNat := ⟨_, rfl⟩
  have q1 := wrapU tm
  have q2 := modU tm
  have hx := xor_sign tm htm.1 htm.2
  rw [← hU] at q1 q2 hx
  rw [← hV] at hx
  have h1 := Lib.beBytes_length 8 V
  have h2 := wsB_len false l hl
  have h3 := pbytes_len t f ll i n
  have a1 := add_bs (Lib.beBytes 8 V) (wsB false l) (by omega) (by omega)
  have a2 := add_bs (Lib.beBytes 8 V ++ wsB false l) (pbytes t f ll i n) (by rw [List.length_append]; omega) (by omega)
  have hh : hdB false l tm t f ll i n = Lib.beBytes 8 V ++ wsB false l ++ pbytes t f ll i n := by rw [hV]; rfl
  rw [← hh] at a2
  have HB8 := Lib.hid (fun W => codBig8_any V W)
  have HS := Lib.hid (fun (W : World) => spansCoded_0 v W)
  rw [show (⟨#[0, 0, 0, 1]⟩ : ByteArray) = ⟨(wsB false l).toArray⟩ from rfl] at HS
  have HP := Lib.hid (fun W => paned_any t ht f ll i n W)
  obtain ⟨s1, e1⟩ : ∃ s : ByteArray, s = ⟨(Lib.beBytes 8 V).toArray⟩ := ⟨_, rfl⟩
  obtain ⟨s2, e2⟩ : ∃ s : ByteArray, s = ⟨(wsB false l).toArray⟩ := ⟨_, rfl⟩
  obtain ⟨s3, e3⟩ : ∃ s : ByteArray, s = ⟨(pbytes t f ll i n).toArray⟩ := ⟨_, rfl⟩
  obtain ⟨s4, e4⟩ : ∃ s : ByteArray, s = ⟨(Lib.beBytes 8 V ++ wsB false l).toArray⟩ := ⟨_, rfl⟩
  obtain ⟨s5, e5⟩ : ∃ s : ByteArray, s = ⟨(hdB false l tm t f ll i n).toArray⟩ := ⟨_, rfl⟩
  rw [← e1, ← e2, ← e4] at a1
  rw [← e4, ← e3, ← e5] at a2
  rw [← e1] at HB8
  rw [← e2] at HS
  rw [← e3] at HP
  rw [← e5]
  have KD : D1 w #[.int .i64 (t : Nat), .bool f, .bool ll, .int .i64 i, .int .i64 n] 50 (w.alloc (.cells #[.int .i64 (t : Nat), .bool f, .bool ll, .int .i64 i, .int .i64 n] 50)).drew := ⟨heap_alloc_new w _, below_drew (below_alloc (Below.refl _ _) _)⟩
  have K0 := D1.of5 KD
  have HKD := Lib.hid KD
  clear KD hU hV hl htm ht h1 h2 h3 hh e1 e2 e3 e4 e5
  go_enter Tryz.func27, Tryz.ntmps27
  go_wp2
  go_region_held3 (fun w' => w'.cell? ⟨w.heap.size, 0, none⟩ = some (.int .i64 (t : Nat)) ∧ w'.cell? ⟨w.heap.size, 1, none⟩ = some (.bool f) ∧ w'.cell? ⟨w.heap.size, 2, none⟩ = some (.bool ll) ∧ w'.cell? ⟨w.heap.size, 3, none⟩ = some (.int .i64 i) ∧ w'.cell? ⟨w.heap.size, 4, none⟩ = some (.int .i64 n) ∧ Aside0 (D1 w #[.int .i64 (t : Nat), .bool f, .bool ll, .int .i64 i, .int .i64 n] 50 w')) (assumption) (first
    | (go_at_call 46; go_loud ((with_reducible refine (HB8.out _).mono ?_); rintro e_ w1 ⟨rfl, hb⟩; have HK1 := Lib.hid (D1.step HKD.out hb); have HKB1 := Lib.hid (D1.bel HK1.out); have K1 := D1.of5 HK1.out; clear hb))
    | (go_at_call 26; go_loud ((with_reducible refine (HS.out _).mono ?_); rintro e_ w2 ⟨rfl, hw⟩; have hb : Below w1.heap.size w1 w2 := (by rw [hw]; exact Below.refl _ _); clear hw; have HK2 := Lib.hid (D1.step HK1.out hb); have K2 := D1.of5 HK2.out; clear hb))
    | (go_at_call 56; go_loud ((with_reducible refine (HP.out _).mono ?_); rintro e_ w3 ⟨rfl, hb⟩; have HK3 := Lib.hid (D1.step HK2.out hb); have K3 := D1.of5 HK3.out; clear hb)))
  all_goals
    have HKb := Lib.hid HK3.out.2
    clear K0 K1 K2 K3
    refine (by assumption : ∀ (a : Act) (w : World), Code.wp _ _ _ a w → _) _ _ ?_
    go_wp2
    go_ret
    exact ⟨rfl, HKb.out⟩
end Go.Proofs.YtgdbeiadlgkedaaGreatDoor
namespace Go.Proofs.YtgdbeiadlgkedaaGreatDoor.PFnWindowsRead
open Go.RowKit Go.Proofs.YtgdbeiadlgkedaaGreatDoorW.PrintWords Go.Proofs.YtgdbeiadlgkedaaGreatDoorW.PrintLast Go.Proofs.YtgdbeiadlgkedaaGreatDoorW.PrintMore
attribute [local go_sem] max2_int min2_int max_two min_two max_three min_three max_four min_four
set_option linter.unusedVariables false
set_option linter.unusedSimpArgs false
def errW : Option Int → Value
  | none => .nilIface
  | some c => .iface 0 (.int .i64 c)
theorem errW_none : errW none = .nilIface := rfl
theorem errW_some (c : Int) : errW (some c) = .iface 0 (.int .i64 c) := rfl
theorem info32 : (Tryz.prog.info? 32).map (fun i => (i.zero, i.size, i.bytes)) = some (some (.agg #[(.bool false), (.int .i64 0), (.int .i64 0)]), 3, 24) := by kernel_rfl
structure S23 where
  f0 : Bool
  f1 : Int
  f2 : Int
def z23 : S23 := ⟨false, (0 : Int), (0 : Int)⟩
def k23 : Kd S23 := Kd.iso (Kd.pair Kd.bool (Kd.pair (Kd.int .i64) (Kd.int .i64))) (fun x : S23 => (x.f0, x.f1, x.f2))
theorem k23_open {w : World} {x : S23} {cs : List Value} (h : k23.K w x cs) : cs = [.bool x.f0, .int .i64 x.f1, .int .i64 x.f2] := by
  obtain ⟨_, _, rfl, rfl, ⟨_, _, rfl, rfl, rfl⟩⟩ := h
  exact rfl
theorem k23_mkM (w : World) (base : Nat) (ok : Nat → Prop) (x : S23)  : k23.M w base ok x [.bool x.f0, .int .i64 x.f1, .int .i64 x.f2] := ⟨[.bool x.f0], [.int .i64 x.f1, .int .i64 x.f2], rfl, rfl, ⟨[.int .i64 x.f1], [.int .i64 x.f2], rfl, rfl, rfl⟩⟩
def rd_T23 (xs : List S23) (i : Int) : S23 := xs.getD i.toNat z23
theorem at_T23 {w : World} {A : Option Addr} {n : Nat} {xs : List S23} (h : Kd.C k23 w A n xs) (i : Int) (h0 : 0 ≤ i) (h1 : i < n) : ∃ ad , A = some ad ∧ w.cell? (ad.add (i.toNat * 3)) = some (.bool (rd_T23 xs i).f0) ∧ w.cell? ⟨(ad.add (i.toNat * 3)).block, (ad.add (i.toNat * 3)).off + 1, none⟩ = some (.int .i64 (rd_T23 xs i).f1) ∧ w.cell? ⟨(ad.add (i.toNat * 3)).block, (ad.add (i.toNat * 3)).off + 2, none⟩ = some (.int .i64 (rd_T23 xs i).f2) := by
  obtain ⟨ad, c, e, _, hK, hc0⟩ := Kd.C_get h z23 i h0 h1
  have hc : ∀ j u, c[j]? = some u → w.cell? (ad.add (i.toNat * 3 + j)) = some u := hc0
  obtain rfl := k23_open hK
  exact ⟨ad, e, hc 0 _ rfl, by rw [← add_field _ _ 1 (by omega)]; exact hc 1 _ rfl, by rw [← add_field _ _ 2 (by omega)]; exact hc 2 _ rfl⟩
structure S32 where
  f0 : Bool
  f1 : Int
  f2 : Int
def z32 : S32 := ⟨false, (0 : Int), (0 : Int)⟩
def k32 : Kd S32 := Kd.iso (Kd.pair Kd.bool (Kd.pair (Kd.int .i64) (Kd.int .i64))) (fun x : S32 => (x.f0, x.f1, x.f2))
theorem k32_open {w : World} {x : S32} {cs : List Value} (h : k32.K w x cs) : cs = [.bool x.f0, .int .i64 x.f1, .int .i64 x.f2] := by
  obtain ⟨_, _, rfl, rfl, ⟨_, _, rfl, rfl, rfl⟩⟩ := h
  exact rfl
theorem k32_mkM (w : World) (base : Nat) (ok : Nat → Prop) (x : S32)  : k32.M w base ok x [.bool x.f0, .int .i64 x.f1, .int .i64 x.f2] := ⟨[.bool x.f0], [.int .i64 x.f1, .int .i64 x.f2], rfl, rfl, ⟨[.int .i64 x.f1], [.int .i64 x.f2], rfl, rfl, rfl⟩⟩
def rd_T32 (xs : List S32) (i : Int) : S32 := xs.getD i.toNat z32
theorem at_T32 {w : World} {A : Option Addr} {n : Nat} {xs : List S32} (h : Kd.C k32 w A n xs) (i : Int) (h0 : 0 ≤ i) (h1 : i < n) : ∃ ad , A = some ad ∧ w.cell? (ad.add (i.toNat * 3)) = some (.bool (rd_T32 xs i).f0) ∧ w.cell? ⟨(ad.add (i.toNat * 3)).block, (ad.add (i.toNat * 3)).off + 1, none⟩ = some (.int .i64 (rd_T32 xs i).f1) ∧ w.cell? ⟨(ad.add (i.toNat * 3)).block, (ad.add (i.toNat * 3)).off + 2, none⟩ = some (.int .i64 (rd_T32 xs i).f2) := by
  obtain ⟨ad, c, e, _, hK, hc0⟩ := Kd.C_get h z32 i h0 h1
  have hc : ∀ j u, c[j]? = some u → w.cell? (ad.add (i.toNat * 3 + j)) = some u := hc0
  obtain rfl := k32_open hK
  exact ⟨ad, e, hc 0 _ rfl, by rw [← add_field _ _ 1 (by omega)]; exact hc 1 _ rfl, by rw [← add_field _ _ 2 (by omega)]; exact hc 2 _ rfl⟩
end Go.Proofs.YtgdbeiadlgkedaaGreatDoor.PFnWindowsRead
set_option linter.unusedVariables false
set_option linter.unusedSimpArgs false
namespace Go.Proofs.YtgdbeiadlgkedaaGreatDoor.PFnWindowsRead
open Go.RowKit Go.Proofs.YtgdbeiadlgkedaaGreatDoorW.PrintWords Go.Proofs.YtgdbeiadlgkedaaGreatDoorW.PrintLast Go.Proofs.YtgdbeiadlgkedaaGreatDoorW.PrintMore
def spec_CodSpanTime.f (a0 : Int) : Option (Bool) := if a0 ≥ (-9223372036854775) then (some (decide (a0 ≤ 9223372036854775))) else (some false)
set_option maxHeartbeats 8000000 in
set_option maxRecDepth 100000 in
theorem spec_CodSpanTime.calls (a0 : Int) (r : Bool) (w : World) (h : spec_CodSpanTime.f a0 = some r) :
    Calls Tryz.prog 30 #[.int .i64 a0] w fun e w' => e = .returned (.bool r) ∧ Drawn0 w w' := by
  have H : (if a0 ≥ (-9223372036854775) then (some (decide (a0 ≤ 9223372036854775))) else (some false)) = some r := h
  clear h
  by_cases c2 : a0 ≥ (-9223372036854775)
  · rw [if_pos c2] at H
    have c2b0 : decide ((-9223372036854775) ≤ a0) = true := decide_eq_true c2
    clear c2
    obtain rfl := Option.some.inj H
    go_enter Tryz.func30, Tryz.ntmps30
    go_wp2
    go_ret
    exact ⟨by first | rfl | (simp; done) | (simp [*]; done), by repeat (first | exact Drawn0.refl _ | apply Drawn0.step)⟩
  · rw [if_neg c2] at H
    have c2b0 : decide ((-9223372036854775) ≤ a0) = false := decide_eq_false c2
    clear c2
    obtain rfl := Option.some.inj H
    go_enter Tryz.func30, Tryz.ntmps30
    go_wp2
    go_ret
    exact ⟨by first | rfl | (simp; done) | (simp [*]; done), by repeat (first | exact Drawn0.refl _ | apply Drawn0.step)⟩
end Go.Proofs.YtgdbeiadlgkedaaGreatDoor.PFnWindowsRead
set_option linter.unusedVariables false
set_option linter.unusedSimpArgs false
namespace Go.Proofs.YtgdbeiadlgkedaaGreatDoor
open Go.RowKit PFnWindowOne Go.Proofs.YtgdbeiadlgkedaaGreatDoorW.PrintWords
def IfRow (gb n : Nat) (xs : List S23) (w : World) : Prop := ∃ cs : Array Value, w.heap[gb]? = some (.cells cs 88 (0, 0)) ∧ cs.size = n ∧ ∀ (j : Nat) (x : S23), xs[j]? = some x → cs[j]? = some (ifv x)
theorem IfRow.set {gb n : Nat} {xs : List S23} {w : World} (h : IfRow gb n xs w) (x : S23) (hl : xs.length < n) : IfRow gb n (xs ++ [x]) (w.setCell ⟨gb, xs.length, none⟩ (ifv x)) := by
  obtain ⟨cs, h1, h2, h3⟩ := h
  refine ⟨cs.setIfInBounds xs.length (ifv x), Lib.heap_setCell_same (i := xs.length) h1 (ifv x), by simp [h2], fun j y hj => ?_⟩
  rw [Array.getElem?_setIfInBounds]
  by_cases e : xs.length = j
  · subst e
    rw [List.getElem?_append_right (Nat.le_refl _)] at hj
    simp only [Nat.sub_self, List.getElem?_cons_zero, Option.some.injEq] at hj
    subst hj
    rw [if_pos rfl, if_pos (by omega)]
  · rw [if_neg e]
    refine h3 j y ?_
    have hlt := (List.getElem?_eq_some_iff.1 hj).1
    rw [List.length_append, List.length_singleton] at hlt
    rwa [List.getElem?_append_left (by omega)] at hj
theorem IfRow.lt {gb n : Nat} {xs : List S23} {w : World} (h : IfRow gb n xs w) : gb < w.heap.size := by obtain ⟨cs, h1, _⟩ := h; exact blk_lt h1
theorem IfRow.cell {gb n : Nat} {xs : List S23} {w : World} (h : IfRow gb n xs w) (i : Nat) (hi : i < n) : ∃ v, w.cell? ⟨gb, i, none⟩ = some v := by
  obtain ⟨cs, h1, h2, h3⟩ := h
  exact ⟨cs[i]'(by omega), by rw [blk_cell h1]; simp [h2, hi]⟩
theorem IfRow.C {gb : Nat} {xs : List S23} {w : World} (h : IfRow gb xs.length xs w) (hl : xs.length ≤ 1000000) : Kd.C kIf w (some ⟨gb, 0, none⟩) xs.length xs := by
  obtain ⟨cs, h1, h2, h3⟩ := h
  refine ⟨rfl, by omega, fun _ => ⟨⟨gb, 0, none⟩, rfl, fun j p hj => ⟨[ifv p], rfl, rfl, fun i u hu => ?_⟩⟩⟩
  obtain ⟨rfl, rfl⟩ : i = 0 ∧ u = ifv p := by
    cases i with
    | zero => exact ⟨rfl, by simpa using hu.symm⟩
    | succ i => simp at hu
  show w.cell? (Addr.add ⟨gb, 0, none⟩ (j * 1 + 0)) = _
  rw [Nat.mul_one, Nat.add_zero, Lib.addr_add, blk_cell h1]
  have : 0 + j = j := by omega
  rw [this]
  exact h3 j p hj
end Go.Proofs.YtgdbeiadlgkedaaGreatDoor
set_option linter.unusedVariables false
set_option linter.unusedSimpArgs false
namespace Go.Proofs.YtgdbeiadlgkedaaGreatDoor
open Go.RowKit PFnWindowOne Go.Proofs.YtgdbeiadlgkedaaGreatDoorW.PrintWords
theorem eqA32 (d : Nat) (w : World) (x0 y0 : Bool) (x1 y1 : Int) (x2 y2 : Int) :
    (Op.equalIn (d + 2) 32 (.agg #[.bool x0, .int .i64 x1, .int .i64 x2]) (.agg #[.bool y0, .int .i64 y1, .int .i64 y2])).run Tryz.prog w = .ok (x0 == y0 && (x1 == y1 && (x2 == y2))) w := by
  refine eqA_of Tryz.underlying32 (by kernel_rfl) ?_
  refine eqf_cons (by rfl) (by go_simp; rfl) (by go_simp; rfl) (by go_simp) ?_
  refine eqf_cons (by rfl) (by go_simp; rfl) (by go_simp; rfl) (by go_simp) ?_
  exact eqf_last (by rfl) (by go_simp; rfl) (by go_simp; rfl) (by go_simp)
attribute [local go_sem high] eqA32
end Go.Proofs.YtgdbeiadlgkedaaGreatDoor
set_option linter.unusedVariables false
set_option linter.unusedSimpArgs false
namespace Go.Proofs.YtgdbeiadlgkedaaGreatDoor
open Go.RowKit PFnWindowOne Go.Proofs.YtgdbeiadlgkedaaGreatDoorW.PrintWords
def kOf (b : Bool) : Int := if b then 1 else 0
theorem kind_any (b : Bool) (w : World) : Calls Tryz.prog 21 #[.bool b] w fun e w' => e = .returned (.int .i64 (kOf b)) ∧ w = w' := by
  cases b
  · go_enter Tryz.func21, Tryz.ntmps21
    go_wp2
    go_ret
    exact ⟨rfl, rfl⟩
  · go_enter Tryz.func21, Tryz.ntmps21
    go_wp2
    go_ret
    exact ⟨rfl, rfl⟩
end Go.Proofs.YtgdbeiadlgkedaaGreatDoor
set_option linter.unusedVariables false
set_option linter.unusedSimpArgs false
namespace Go.Proofs.YtgdbeiadlgkedaaGreatDoor
open Go.RowKit PFnWindowOne Go.Proofs.YtgdbeiadlgkedaaGreatDoorW.PrintWords
theorem encHd_any (b : Bool) (l : List S23) (hok : ∀ x ∈ l, okS (toS x)) (hl : l.length ≤ 20) (A : Option Addr) (c : Nat) (tm : Int) (htm : -9223372036854775808 ≤ tm ∧ tm ≤ 9223372036854775807) (t : Nat) (ht : t < 4) (f ll : Bool) (i n : Int) (hp : t = 0 → n = -1 ∨ (i = 0 ∧ n = 0)) (w : World) (hC : Kd.C k23 w A l.length l) (hc : l.length ≤ c) :
    Calls Tryz.prog 22 #[.int .i64 (kOf b), .slice A l.length c, .int .i64 tm, .agg #[.int .i64 (t : Nat), .bool f, .bool ll, .int .i64 i, .int .i64 n]] w fun x w' => x = .returned (.tuple #[.string ⟨(hdB b l tm t f ll i n).toArray⟩, .string ⟨#[]⟩]) ∧ Below w.heap.size w w' := by
  cases b
  · exact encHd_0 l hok hl A c tm htm t ht f ll i n hp w hC hc
  · exact encHd_1 l hok hl A c tm htm t ht f ll i n hp w hC hc
theorem headCoded_any (b : Bool) (l : List S23) (hok : ∀ x ∈ l, okS (toS x)) (hl : l.length ≤ 20) (A : Option Addr) (c : Nat) (tm : Int) (htm : -9223372036854775808 ≤ tm ∧ tm ≤ 9223372036854775807) (t : Nat) (ht : t < 4) (f ll : Bool) (i n : Int) (w : World) (hC : Kd.C k32 w A l.length (l.map toS)) (hc : l.length ≤ c) :
    Calls Tryz.prog 27 #[.int .i64 (kOf b), .slice A l.length c, .int .i64 tm, .agg #[.int .i64 (t : Nat), .bool f, .bool ll, .int .i64 i, .int .i64 n]] w fun x w' => x = .returned (.string ⟨(hdB b l tm t f ll i n).toArray⟩) ∧ Below w.heap.size w w' := by
  cases b
  · exact headCoded_0 l hl _ tm htm t ht f ll i n w
  · exact headCoded_1 l hok hl A c tm htm t ht f ll i n w hC hc
section
variable {P : Program} {ops : Array Oper} {o : Oper} {a : Act} {Q : Exit → Act → World → Prop} {Kc : Act → World → Prop}
theorem R_append_winsS {w0 W : World} (base : Nat) (hw : Region.wanted o (yielded ops a.tmps) = true) (s x : Operand) (t : TypeId)
    (ho : o.op = .call { callee := .builtin .append, args := #[s, x], argTypes := #[t, t] })
    (ht : P.underlying t = some (.slice 23)) (hinfo : (P.info? 23).map (fun i => (i.zero, i.size, i.bytes)) = some (some (.agg #[(.bool false), (.int .i64 0), (.int .i64 0)]), 3, 24))
    (v : Value) (xs ys : List S23) (A : Option Addr) (m c : Nat) (hs : a.eval s = v) (hx : a.eval x = .slice A m c)
    (HO : Kd.R k23 23 W base (fun _ => True) v xs) (HR : Kd.C k23 W A m ys) (HB : Below base w0 W) (hbase : base ≤ W.heap.size) (hl : (xs.length + m) * 24 ≤ 140737488355328)
    (h : ∀ A1 c1 w1, Kd.R k23 23 w1 base (fun _ => True) (.slice A1 (xs ++ ys).length c1) (xs ++ ys) → Below base w0 w1 → W.grownBy w1 v.ownBlock → Kc (a.put o.dst (.slice A1 (xs ++ ys).length c1)) w1) :
    if Region.wanted o (yielded ops a.tmps) = true then Oper.wp P o a W Kc Q else Kc (a.put o.dst undef) W := by
  refine Kd.R_append_rows_step k23 (Rr := k23.K W) (w0 := w0) base hw s x t 23 _ 24 ho ht hinfo rfl (by decide) (by decide) v xs ys A m c (fun _ => True) (fun _ => False) hs hx HO HR (fun _ _ q => q) (fun _ q => q.elim) (fun _ _ => trivial) HB hbase hl (fun v1 w1 h1 h2 h3 _ => ?_)
  obtain ⟨A1, c1, hv⟩ := Kd.R_slice h1
  subst hv
  exact h A1 c1 w1 h1 h2 h3
end
theorem D1.of8 {w0 x : World} {v0 v1 v2 v3 v4 v5 v6 v7 : Value} {T : TypeId} (h : D1 w0 #[v0, v1, v2, v3, v4, v5, v6, v7] T x) : x.cell? ⟨w0.heap.size, 0, none⟩ = some v0 ∧ x.cell? ⟨w0.heap.size, 1, none⟩ = some v1 ∧ x.cell? ⟨w0.heap.size, 2, none⟩ = some v2 ∧ x.cell? ⟨w0.heap.size, 3, none⟩ = some v3 ∧ x.cell? ⟨w0.heap.size, 4, none⟩ = some v4 ∧ x.cell? ⟨w0.heap.size, 5, none⟩ = some v5 ∧ x.cell? ⟨w0.heap.size, 6, none⟩ = some v6 ∧ x.cell? ⟨w0.heap.size, 7, none⟩ = some v7 ∧ Aside0 (D1 w0 #[v0, v1, v2, v3, v4, v5, v6, v7] T x) :=
  ⟨(blk_cell h.1 0).trans rfl, (blk_cell h.1 1).trans rfl, (blk_cell h.1 2).trans rfl, (blk_cell h.1 3).trans rfl, (blk_cell h.1 4).trans rfl, (blk_cell h.1 5).trans rfl, (blk_cell h.1 6).trans rfl, (blk_cell h.1 7).trans rfl, ⟨h⟩⟩
set_option maxHeartbeats 8000000 in
set_option maxRecDepth 100000 in
theorem header_ok (pe pl : Addr) (b : Bool) (A : Option Addr) (c : Nat) (l : List S23) (tm : Int) (t : Nat) (f ll : Bool) (i k : Int) (w : World) (he : Env w.heap.size pe pl w) (hC : Kd.C k23 w A l.length l) (hc : l.length ≤ c) (hh : headOk l tm t i k)
    (hw : ∀ W, Kd.C k23 W A l.length l → Calls Tryz.prog 20 #[.agg (hdV b A l.length c tm t f ll i k)] W fun e w' => e = .returned (.bool true) ∧ Below W.heap.size W w') :
    Calls Tryz.prog 7 #[.agg (hdV b A l.length c tm t f ll i k)] w fun x w' => x = .returned (.bool true) ∧ Below w.heap.size w w' := by
  obtain ⟨hl, hok, htm, hpo⟩ := hh
  have HE := Lib.hid he
  have HC := Lib.hid hC
  have HK := Lib.hid (And.intro hc hl)
  have ht : t < 4 := by have := hpo.2.1; omega
  have hp : t = 0 → k = -1 ∨ (i = 0 ∧ k = 0) := fun e => hpo.2.2 (by rw [e]; rfl)
  have HF := Lib.hid (fun W => by have := fits3_any b A l.length c tm t f ll i k W; rw [decide_eq_true (show l.length ≤ 2147483647 by omega)] at this; exact this)
  have HW := Lib.hid hw
  obtain ⟨S1, hS1⟩ : ∃ S1 : ByteArray, S1 = ⟨(hdB b l tm t f ll i k).toArray⟩ := ⟨_, rfl⟩
  have HH := Lib.hid (fun (A' : Option Addr) (c' : Nat) (W : World) (h1 : Kd.C k23 W A' l.length l) (h2 : l.length ≤ c') => encHd_any b l hok hl A' c' tm (by omega) t ht f ll i k hp W h1 h2)
  have HS := Lib.hid (fun (A' : Option Addr) (c' : Nat) (W : World) (h1 : Kd.C k32 W A' l.length (l.map toS)) (h2 : l.length ≤ c') => headCoded_any b l hok hl A' c' tm (by omega) t ht f ll i k W h1 h2)
  rw [← hS1] at HH HS
  have HSO := Lib.hid (fun (W : World) (h : Kd.C k23 W A l.length l) => laws_codSpanOf.calls (l.length + 1) A c l _ W h hc (spanOf_f l (by omega)))
  have HD := Lib.hid (show D1 w (hdV b A l.length c tm t f ll i k) 44 (w.alloc (.cells (hdV b A l.length c tm t f ll i k) 44)) from ⟨heap_alloc_new w _, below_alloc (Below.refl w.heap.size w) _⟩)
  have HCP := Lib.hid (fun W => codPaneZ t f ll i k W)
  have HR := Lib.hid (fun W => kind_any b W)
  clear he hC hc hl hok htm hpo hw ht hp hS1
  go_enter Tryz.func7, Tryz.ntmps7
  go_wp2_with (first
    | (go_at_call 19; go_loud ((with_reducible refine (HF.out _).mono ?_); rintro e_ w1 ⟨rfl, hb⟩; have HD1 := Lib.hid (HD.out.step hb); have K1 := HD1.out.cells8; clear hb))
    | (go_at_call 20; go_loud ((with_reducible refine (HW.out w1 (C_move HC.out (D1.bel HD1.out))).mono ?_); rintro e_ w2 ⟨rfl, hb⟩; have HD2 := Lib.hid (HD1.out.step hb); clear K1; have K2 := HD2.out.cells8; clear hb))
    | (go_at_call 21; go_loud (refine (HR.out _).mono ?_; rintro e_ w3 ⟨rfl, rfl⟩)))
  have HD3 := Lib.hid (show D1 w (hdV b A l.length c tm t f ll i k) 44 w2.drew from D1.drewN HD2.out 1)
  have K3 : _ := D1.of8 (x := w2.drew) HD3.out
  clear K2
  go_region_held3 (fun w' => w'.cell? ⟨w.heap.size, 0, none⟩ = some (.bool b) ∧ w'.cell? ⟨w.heap.size, 1, none⟩ = some (.slice A l.length c) ∧ w'.cell? ⟨w.heap.size, 2, none⟩ = some (.int .i64 tm) ∧ w'.cell? ⟨w.heap.size, 3, none⟩ = some (.int .i64 (t : Nat)) ∧ w'.cell? ⟨w.heap.size, 4, none⟩ = some (.bool f) ∧ w'.cell? ⟨w.heap.size, 5, none⟩ = some (.bool ll) ∧ w'.cell? ⟨w.heap.size, 6, none⟩ = some (.int .i64 i) ∧ w'.cell? ⟨w.heap.size, 7, none⟩ = some (.int .i64 k) ∧ Aside0 (D1 w (hdV b A l.length c tm t f ll i k) 44 w')) (assumption) (first
    | (refine R_append_winsS (w0 := w) (W := w2.drew) w.heap.size (by rfl) (.const (.slice none 0 0)) (.tmp 19) 25 (by rfl) Tryz.underlying25 info23 _ [] l A l.length c (by rfl) (by rfl) (Kd.R_nil _ _ _ _ _) (C_move HC.out (D1.bel HD3.out)) (D1.bel HD3.out) (D1.bel HD3.out).size ?hl ?_; (case hl => have := HK.out.2; simp; omega); intro A4 c4 w4 hR4 hB4 hg4; rw [List.nil_append] at hR4 ⊢; have HR4 := Lib.hid (Kd.R_reads' hR4).2; have HD4 := Lib.hid (D1.step HD3.out (below_none hg4)); have K4 := D1.of8 HD4.out; clear hR4 hB4 hg4)
    | (go_at_call 22; go_loud ((with_reducible refine (HH.out A4 c4 w4 HR4.out.2 HR4.out.1).mono ?_); rintro e_ w5 ⟨rfl, hb⟩; have HD5 := Lib.hid (D1.step HD4.out hb); have K5 := D1.of8 HD5.out; clear hb)))
  all_goals
    clear K3 K4 K5
    refine (by assumption : ∀ (a : Act) (w : World), Code.wp _ _ _ a w → _) _ _ ?_
    have HD6 := Lib.hid (show D1 w (hdV b A l.length c tm t f ll i k) 44 w5.drew from D1.drewN HD5.out 1)
    have K6 : _ := D1.of8 (x := w5.drew) HD6.out
    go_wp2_with fail
    go_region_held3 (fun w' => w'.cell? ⟨w.heap.size, 0, none⟩ = some (.bool b) ∧ w'.cell? ⟨w.heap.size, 1, none⟩ = some (.slice A l.length c) ∧ w'.cell? ⟨w.heap.size, 2, none⟩ = some (.int .i64 tm) ∧ w'.cell? ⟨w.heap.size, 3, none⟩ = some (.int .i64 (t : Nat)) ∧ w'.cell? ⟨w.heap.size, 4, none⟩ = some (.bool f) ∧ w'.cell? ⟨w.heap.size, 5, none⟩ = some (.bool ll) ∧ w'.cell? ⟨w.heap.size, 6, none⟩ = some (.int .i64 i) ∧ w'.cell? ⟨w.heap.size, 7, none⟩ = some (.int .i64 k) ∧ Aside0 (D1 w (hdV b A l.length c tm t f ll i k) 44 w')) (assumption) (first
      | (go_at_call 11; go_loud ((with_reducible refine (awake_any w.heap.size pe pl w5.drew (HE.out.below (D1.bel HD6.out)) (D1.bel HD6.out).size).mono ?_); rintro e_ w7 ⟨rfl, hb⟩; have HD7 := Lib.hid (D1.step HD6.out hb); have K7 := D1.of8 HD7.out; clear hb))
      | (go_at_call 15; go_loud ((with_reducible refine (HSO.out w7 (C_move HC.out (D1.bel HD7.out))).mono ?_); rintro e_ w8 ⟨v, rfl, hR8, hb⟩; obtain ⟨A8, c8, e8⟩ := Kd.R_slice hR8; subst e8; have hC8 := (Kd.R_reads' hR8).2; rw [List.length_map] at hC8; (try rw [List.length_map]); have HC8 := Lib.hid hC8; have HD8 := Lib.hid (D1.step HD7.out hb); have K8 := D1.of8 HD8.out; clear hb hR8 hC8))
      | (go_at_call 24; go_loud ((with_reducible refine (HCP.out _).mono ?_); rintro e_ w9 ⟨rfl, hb⟩; have HC9 := Lib.hid (Kd.C_below HC8.out.2 hb); have HD9 := Lib.hid (D1.step HD8.out hb); have K9 := D1.of8 HD9.out; clear hb))
      | (go_at_call 27; go_loud ((with_reducible refine (HS.out A8 c8 w9 HC9.out HC8.out.1).mono ?_); rintro e_ w10 ⟨rfl, hb⟩; have HD10 := Lib.hid (D1.step HD9.out hb); have K10 := D1.of8 HD10.out; clear hb)))
    all_goals
      clear K6 K7 K8 K9 K10
      refine (by assumption : ∀ (a : Act) (w : World), Code.wp _ _ _ a w → _) _ _ ?_
      go_wp2
      go_ret
      exact ⟨rfl, D1.bel HD10.out⟩
end Go.Proofs.YtgdbeiadlgkedaaGreatDoor
set_option linter.unusedVariables false
set_option linter.unusedSimpArgs false
namespace Go.Proofs.YtgdbeiadlgkedaaGreatDoor
open Go.RowKit PFnWindowOne Go.Proofs.YtgdbeiadlgkedaaGreatDoorW.PrintWords
theorem header_long (b : Bool) (A : Option Addr) (n c : Nat) (tm t : Int) (f ll : Bool) (i k : Int) (w : World) (h : 2147483647 < n) :
    Calls Tryz.prog 7 #[.agg (hdV b A n c tm t f ll i k)] w fun x w' => x = .returned (.bool true) ∧ Below w.heap.size w w' := by
  have HF := Lib.hid (fun W => by have := fits3_any b A n c tm t f ll i k W; rw [decide_eq_false (show ¬ n ≤ 2147483647 by omega)] at this; exact this)
  have HD := Lib.hid (show D1 w (hdV b A n c tm t f ll i k) 44 (w.alloc (.cells (hdV b A n c tm t f ll i k) 44)) from ⟨heap_alloc_new w _, below_alloc (Below.refl w.heap.size w) _⟩)
  clear h
  go_enter Tryz.func7, Tryz.ntmps7
  go_wp2_with (go_at_call 19; go_loud ((with_reducible refine (HF.out _).mono ?_); rintro e_ w1 ⟨rfl, hb⟩; have HD1 := Lib.hid (HD.out.step hb); clear hb))
  go_ret
  exact ⟨rfl, D1.bel HD1.out⟩
theorem header_not (pe pl : Addr) (b : Bool) (A : Option Addr) (c : Nat) (l : List S23) (tm t : Int) (f ll : Bool) (i k : Int) (w : World) (he : Env w.heap.size pe pl w) (hC : Kd.C k23 w A l.length l) (h : ¬ 2147483647 < l.length)
    (hw : ∀ W, Kd.C k23 W A l.length l → Calls Tryz.prog 20 #[.agg (hdV b A l.length c tm t f ll i k)] W fun e w' => e = .returned (.bool false) ∧ Below W.heap.size W w') :
    Calls Tryz.prog 7 #[.agg (hdV b A l.length c tm t f ll i k)] w fun x w' => x = .returned (.bool true) ∧ Below w.heap.size w w' := by
  have HE := Lib.hid he
  have HC := Lib.hid hC
  have HF := Lib.hid (fun W => by have := fits3_any b A l.length c tm t f ll i k W; rw [decide_eq_true (show l.length ≤ 2147483647 by omega)] at this; exact this)
  have HD := Lib.hid (show D1 w (hdV b A l.length c tm t f ll i k) 44 (w.alloc (.cells (hdV b A l.length c tm t f ll i k) 44)) from ⟨heap_alloc_new w _, below_alloc (Below.refl w.heap.size w) _⟩)
  have HW := Lib.hid hw
  clear h he hC hw
  go_enter Tryz.func7, Tryz.ntmps7
  go_wp2_with (first
    | (go_at_call 19; go_loud ((with_reducible refine (HF.out _).mono ?_); rintro e_ w1 ⟨rfl, hb⟩; have HD1 := Lib.hid (HD.out.step hb); have K1 := HD1.out.cells8; clear hb))
    | (go_at_call 20; go_loud ((with_reducible refine (HW.out w1 (C_move HC.out (D1.bel HD1.out))).mono ?_); rintro e_ w2 ⟨rfl, hb⟩; have HD2 := Lib.hid (HD1.out.step hb); clear K1; clear hb))
    | (go_at_call 11; go_loud ((with_reducible refine (awake_any w.heap.size pe pl w2 (HE.out.below (D1.bel HD2.out)) (D1.bel HD2.out).size).mono ?_); rintro e_ w3 ⟨rfl, hb⟩; have HD3 := Lib.hid (HD2.out.step hb); clear hb)))
  go_ret
  exact ⟨rfl, D1.bel HD3.out⟩
theorem header_row (pe pl : Addr) (b : Bool) (A : Option Addr) (c : Nat) (l : List S23) (tm t : Int) (f ll : Bool) (i k : Int) (w : World) (he : Env w.heap.size pe pl w) (hC : Kd.C k23 w A l.length l) (hc : l.length ≤ c) :
    Calls Tryz.prog 7 #[.agg (hdV b A l.length c tm t f ll i k)] w fun x w' => x = .returned (.bool true) ∧ Below w.heap.size w w' := by
  by_cases h : 2147483647 < l.length
  · exact header_long b A l.length c tm t f ll i k w h
  obtain ⟨y, hy, hw⟩ := headFew_any b A c l hc tm t f ll i k
  cases y with
  | false => exact header_not pe pl b A c l tm t f ll i k w he hC h hw
  | true =>
    have hh := hy rfl
    have h0 := hh.2.2.2.1
    obtain ⟨t', rfl⟩ : ∃ t' : Nat, t = (t' : Int) := ⟨t.toNat, by omega⟩
    exact header_ok pe pl b A c l tm t' f ll i k w he hC hc hh hw
end Go.Proofs.YtgdbeiadlgkedaaGreatDoor
