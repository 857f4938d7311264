/- Contracts and plain laws, several texts in one. -/
import Derived.Test.YtgdbeiadlgkedaaGreatDoorMWindows5
import Derived.Test.YtgdbeiadlgkedaaGreatDoorMWindows6
import Derived.Deep.Slices
import Derived.Deep.Strs
import Derived.RowKit
import Derived.ChangeArms
set_option linter.unusedVariables false
set_option linter.unusedSimpArgs false
namespace Go.Proofs.YtgdbeiadlgkedaaGreatDoor
open Go.RowKit PFnWindowOne Go.Proofs.YtgdbeiadlgkedaaGreatDoorW.PrintWords
theorem int1_l (l : List S23) (hl : l.length ≤ 1000) (hok : ∀ x ∈ l, x.f0 = false) : ∀ (m i : Nat), i + m = l.length → impl_intervals.l0 (m + 1) 1 l (l.length : Int) (i : Int) = some true
  | 0, i, h => by rw [impl_intervals.l0, if_neg (by omega)]
  | m + 1, i, h => by
    have hlt : i < l.length := by omega
    have hx := hok _ (List.getElem_mem hlt)
    rw [impl_intervals.l0, if_pos (by omega), if_pos (by omega), if_pos (by omega), if_pos rfl, rd23_at l i hlt, if_neg (by rw [hx]; decide), wrap_up i (by omega), int1_l l hl hok m (i + 1) (by omega)]
theorem int0_l (l : List S23) (hl : l.length ≤ 1000) : ∀ (m i : Nat), i + m = l.length → impl_intervals.l0 (m + 1) 0 l (l.length : Int) (i : Int) = some true
  | 0, i, h => by rw [impl_intervals.l0, if_neg (by omega)]
  | m + 1, i, h => by
    have hlt : i < l.length := by omega
    rw [impl_intervals.l0, if_pos (by omega), if_pos (by omega), if_pos (by omega), if_neg (by decide), wrap_up i (by omega), int0_l l hl m (i + 1) (by omega)]
theorem ints1 (l : List S23) (hl : l.length ≤ 1000) (hok : ∀ x ∈ l, okS (toS x)) : impl_intervals.f (l.length + 1) 1 l = some true := int1_l l hl (fun x hx => (hok x hx).1) l.length 0 (by omega)
theorem ints0 (l : List S23) (hl : l.length ≤ 1000) : impl_intervals.f (l.length + 1) 0 l = some true := int0_l l hl l.length 0 (by omega)
theorem mthE_1 (a : Nat) : ∀ W : World, (nilAhead 367 189 (.pointer (some ⟨a, 0, none⟩)) "Encode").run Tryz.prog W = .ok (some false) W := fun _ => by kernel_rfl
theorem mthE_0 (a : Nat) : ∀ W : World, (nilAhead 367 186 (.pointer (some ⟨a, 0, none⟩)) "Encode").run Tryz.prog W = .ok (some false) W := fun _ => by kernel_rfl
theorem buf_next {w w2 : World} {o o2 : Obj} (h : w2 = (w.alloc o).drew.alloc o2) : w2.heap[w.heap.size + 1]? = some o2 := by
  have h1 := heap_alloc_new (w.alloc o).drew o2
  rw [show (w.alloc o).drew.heap.size = w.heap.size + 1 from World.size_alloc ..] at h1
  rw [h]; exact h1
theorem C_move {w w1 : World} {A : Option Addr} {n : Nat} {l : List S23} (h : Kd.C k23 w A n l) (hb : Below w.heap.size w w1) : Kd.C k23 w1 A n l := Kd.C_below h hb
set_option maxHeartbeats 8000000 in
set_option maxRecDepth 100000 in
theorem encWins_1 (l : List S23) (hok : ∀ x ∈ l, okS (toS x)) (hl : l.length ≤ 20) (A : Option Addr) (c : Nat) (w : World) (hC : Kd.C k23 w A l.length l) (hc : l.length ≤ c) :
    Calls Tryz.prog 16 #[.int .i64 1, .slice A l.length c] w fun x w' => x = .returned (.tuple #[.string ⟨(Lib.beBytes 4 l.length ++ winsB l).toArray⟩, .string ⟨#[]⟩]) ∧ Below w.heap.size w w' := by
  have HI := Lib.hid (impl_intervals.calls (l.length + 1) 1 A c l true w hC hc (ints1 l (by omega) hok))
  have HC := Lib.hid hC
  have HK := Lib.hid (And.intro hok (And.intro hl hc))
  have na := mthE_1
  clear hok hl hC hc
  go_enter Tryz.func16, Tryz.ntmps16
  go_wp2_with (go_at_call 36; go_loud ((with_reducible refine HI.out.mono ?_); rintro e_ w1 ⟨rfl, hb⟩; have HB1 := Lib.hid hb; clear hb))
  have HX := Lib.hid (show (Bf w1.heap.size w1.heap.size [] (w1.alloc (.cells #[.slice none 0 0, .int .i64 0, .int .i8 0] 105)).drew ∧ Below w1.heap.size w1 (w1.alloc (.cells #[.slice none 0 0, .int .i64 0, .int .i8 0] 105)).drew) from by
    have h0 : Below w1.heap.size w1 (w1.alloc (.cells #[.slice none 0 0, .int .i64 0, .int .i8 0] 105)).drew := below_drew (below_alloc (Below.refl _ _) _)
    have hF : Bf w1.heap.size w1.heap.size [] (w1.alloc (.cells #[.slice none 0 0, .int .i64 0, .int .i8 0] 105)) := Lib.fresh_isBuffer 105 5 w1
    exact ⟨hF.old (below_drew (Below.refl _ _)), h0⟩)
  go_region_with (first
    | (go_at_call 39; go_loud (refine (wcoder_1 _).mono ?_; rintro e_ w2 ⟨rfl, hw⟩; have hb : Below (w1.alloc (.cells #[.slice none 0 0, .int .i64 0, .int .i8 0] 105)).drew.heap.size (w1.alloc (.cells #[.slice none 0 0, .int .i64 0, .int .i8 0] 105)).drew w2 := (by rw [hw]; exact (Below.refl _ _).alloc (Nat.le_refl _) _); have HC2 := Lib.hid (buf_next (o2 := .cells #[.string iwc, .string ⟨#[]⟩] 182) hw); have HX2 := Lib.hid (And.intro (HX.out.1.old hb) (below_then HX.out.2 HX.out.2.size hb)); clear hw hb))
    | (go_at_call 38; go_loud (refine (wenc_1 (w1.heap.size + 1) w2 HC2.out).mono ?_; rintro e_ w3 ⟨rfl, hw⟩; have hb : Below w2.heap.size w2 w3 := (by rw [hw]; exact (Below.refl _ _).alloc (Nat.le_refl _) _); have HX3 := Lib.hid (And.intro (HX2.out.1.old hb) (below_then HX2.out.2 HX2.out.2.size hb)); clear hw hb))
    | (go_at_call 48; go_loud (refine (wins_any A c l w3 (C_move HC.out (HB1.out.trans (HX3.out.2.mono HB1.out.size))) HK.out.2.2 (by have := HK.out.2.1; omega)).mono ?_; rintro e_ w4 ⟨v, rfl, hR, hb⟩; have HX4 := Lib.hid (And.intro (HX3.out.1.old hb) (below_then HX3.out.2 HX3.out.2.size hb)); obtain ⟨A4, c4, rfl⟩ := Kd.R_slice hR; have HR4 := Lib.hid hR; clear hR hb))
    | (go_at_call 148; go_loud (refine (encAll_1 w1.heap.size w1.heap.size w3.heap.size _ l HK.out.1 HK.out.2.1 A4 c4 [] w4 HX4.out.1 HX4.out.2.size (by have := HX3.out.1.lt; exact this) HR4.out (by decide)).mono ?_; rintro e_ w5 ⟨rfl, h1, h2, h3⟩; rw [List.nil_append] at h1; have HX5 := Lib.hid (And.intro h1 (HB1.out.trans ((HX4.out.2.trans h2).mono HB1.out.size))); clear h1 h2 h3)))
  all_goals
    refine (by assumption : ∀ (a : Act) (w : World), Code.wp _ _ _ a w → _) _ _ ?_
    go_wp2_with (first | (go_at_call 49; go_loud (refine (string_any _ _ _ _ HX5.out.1).mono ?_; rintro e_ w6 ⟨rfl, q, rfl⟩)) | (go_at_call 41; go_loud (refine (word_nilZ _).mono ?_; rintro e_ w7 ⟨rfl, rfl⟩)))
    go_ret2
    exact ⟨rfl, below_drewN HX5.out.2 q⟩
set_option maxHeartbeats 8000000 in
set_option maxRecDepth 100000 in
theorem encWins_0 (l : List S23) (hl : l.length ≤ 20) (A : Option Addr) (c : Nat) (w : World) (hC : Kd.C k23 w A l.length l) (hc : l.length ≤ c) :
    Calls Tryz.prog 16 #[.int .i64 0, .slice A l.length c] w fun x w' => x = .returned (.tuple #[.string ⟨#[0, 0, 0, 1]⟩, .string ⟨#[]⟩]) ∧ Below w.heap.size w w' := by
  have HI := Lib.hid (impl_intervals.calls (l.length + 1) 0 A c l true w hC hc (ints0 l (by omega)))
  have HC := Lib.hid hC
  have HK := Lib.hid (And.intro hl hc)
  have na := mthE_0
  clear hl hC hc
  go_enter Tryz.func16, Tryz.ntmps16
  go_wp2_with (go_at_call 36; go_loud ((with_reducible refine HI.out.mono ?_); rintro e_ w1 ⟨rfl, hb⟩; have HB1 := Lib.hid hb; clear hb))
  have HX := Lib.hid (show (Bf w1.heap.size w1.heap.size [] (w1.alloc (.cells #[.slice none 0 0, .int .i64 0, .int .i8 0] 105)).drew ∧ Below w1.heap.size w1 (w1.alloc (.cells #[.slice none 0 0, .int .i64 0, .int .i8 0] 105)).drew) from by
    have h0 : Below w1.heap.size w1 (w1.alloc (.cells #[.slice none 0 0, .int .i64 0, .int .i8 0] 105)).drew := below_drew (below_alloc (Below.refl _ _) _)
    have hF : Bf w1.heap.size w1.heap.size [] (w1.alloc (.cells #[.slice none 0 0, .int .i64 0, .int .i8 0] 105)) := Lib.fresh_isBuffer 105 5 w1
    exact ⟨hF.old (below_drew (Below.refl _ _)), h0⟩)
  go_region_with (first
    | (go_at_call 39; go_loud (refine (wcoder_0 _).mono ?_; rintro e_ w2 ⟨rfl, hw⟩; have hb : Below (w1.alloc (.cells #[.slice none 0 0, .int .i64 0, .int .i8 0] 105)).drew.heap.size (w1.alloc (.cells #[.slice none 0 0, .int .i64 0, .int .i8 0] 105)).drew w2 := (by rw [hw]; exact (Below.refl _ _).alloc (Nat.le_refl _) _); have HC2 := Lib.hid (buf_next (o2 := .cells #[.string gwc, .string ⟨#[]⟩] 182) hw); have HX2 := Lib.hid (And.intro (HX.out.1.old hb) (below_then HX.out.2 HX.out.2.size hb)); clear hw hb))
    | (go_at_call 38; go_loud (refine (wenc_0 (w1.heap.size + 1) w2 HC2.out).mono ?_; rintro e_ w3 ⟨rfl, hw⟩; have hb : Below w2.heap.size w2 w3 := (by rw [hw]; exact (Below.refl _ _).alloc (Nat.le_refl _) _); have HX3 := Lib.hid (And.intro (HX2.out.1.old hb) (below_then HX2.out.2 HX2.out.2.size hb)); clear hw hb))
    | (go_at_call 48; go_loud (refine (wins_any A c l w3 (C_move HC.out (HB1.out.trans (HX3.out.2.mono HB1.out.size))) HK.out.2 (by have := HK.out.1; omega)).mono ?_; rintro e_ w4 ⟨v, rfl, hR, hb⟩; have HX4 := Lib.hid (And.intro (HX3.out.1.old hb) (below_then HX3.out.2 HX3.out.2.size hb)); obtain ⟨A4, c4, rfl⟩ := Kd.R_slice hR; have HR4 := Lib.hid hR; clear hR hb))
    | (go_at_call 146; go_loud (refine (encAll_0 w1.heap.size w1.heap.size _ _ [] w4 HX4.out.1 (by decide)).mono ?_; rintro e_ w5 ⟨rfl, h1, h2, h3⟩; rw [List.nil_append] at h1; have HX5 := Lib.hid (And.intro h1 (HB1.out.trans ((HX4.out.2.trans h2).mono HB1.out.size))); clear h1 h2 h3)))
  all_goals
    refine (by assumption : ∀ (a : Act) (w : World), Code.wp _ _ _ a w → _) _ _ ?_
    go_wp2_with (first | (go_at_call 49; go_loud (refine (string_any _ _ _ _ HX5.out.1).mono ?_; rintro e_ w6 ⟨rfl, q, rfl⟩)) | (go_at_call 41; go_loud (refine (word_nilZ _).mono ?_; rintro e_ w7 ⟨rfl, rfl⟩)))
    go_ret2
    exact ⟨rfl, below_drewN HX5.out.2 q⟩
end Go.Proofs.YtgdbeiadlgkedaaGreatDoor
set_option linter.unusedVariables false
set_option linter.unusedSimpArgs false
namespace Go.Proofs.YtgdbeiadlgkedaaGreatDoor
open Go.RowKit PFnWindowOne Go.Proofs.YtgdbeiadlgkedaaGreatDoorW.PrintWords
set_option maxHeartbeats 8000000 in
set_option maxRecDepth 100000 in
theorem wins_ok (pe pl : Addr) (A : Option Addr) (c : Nat) (l : List S23) (w : World) (he : Env w.heap.size pe pl w) (hC : Kd.C k23 w A l.length l) (hc : l.length ≤ c) (hf : laws_codSpanFew.f (l.length + 1) l = some true) (hl : l.length ≤ 20) (hok : ∀ x ∈ l, okS (toS x)) :
    Calls Tryz.prog 6 #[.slice A l.length c] w fun x w' => x = .returned (.bool true) ∧ Below w.heap.size w w' := by
  have HE := Lib.hid he
  have HC := Lib.hid hC
  have HK := Lib.hid (And.intro hc hok)
  have HF := Lib.hid (laws_codSpanFew.calls _ A c l true w hC hc hf)
  have hl1 : (l.length : Int) ≤ 20 := by omega
  obtain ⟨S1, hS1⟩ : ∃ S1 : ByteArray, S1 = ⟨(Lib.beBytes 4 l.length ++ winsB l).toArray⟩ := ⟨_, rfl⟩
  have HE1 := Lib.hid (fun (A' : Option Addr) (c' : Nat) (W : World) (h1 : Kd.C k23 W A' l.length l) (h2 : l.length ≤ c') => encWins_1 l hok hl A' c' W h1 h2)
  have HE0 := Lib.hid (fun (A' : Option Addr) (c' : Nat) (W : World) (h1 : Kd.C k23 W A' l.length l) (h2 : l.length ≤ c') => encWins_0 l hl A' c' W h1 h2)
  have HSC := Lib.hid (fun (A' : Option Addr) (c' : Nat) (W : World) (h1 : Kd.C k32 W A' l.length (l.map toS)) (h2 : l.length ≤ c') => spansCoded_1 l hok hl A' c' W h1 h2)
  rw [← hS1] at HE1 HSC
  have HSO := Lib.hid (fun (W : World) (h : Kd.C k23 W A l.length l) => laws_codSpanOf.calls (l.length + 1) A c l _ W h hc (spanOf_f l (by omega)))
  clear he hC hf hok hc hS1
  go_enter Tryz.func6, Tryz.ntmps6
  go_wp2_with (first
    | (go_at_call 10; go_loud ((with_reducible refine HF.out.mono ?_); rintro e_ w1 ⟨rfl, hb⟩; have HB1 := Lib.hid hb; clear hb))
    | ((with_reducible refine gate_builtin (b := .append) (xs := #[.const (.slice none 0 0), .tmp 15]) rfl ?_); at_builtin; refine R_append_wins (w0 := w) (W := w1) w.heap.size rfl (.const (.slice none 0 0)) (.tmp 15) 25 rfl Tryz.underlying25 info23 _ [] l A l.length c rfl rfl (Kd.R_nil _ _ _ _ _) (C_move HC.out HB1.out) HB1.out HB1.out.size ?hl ?_; (case hl => simp; omega); intro A2 c2 w2 hR2 hB2 hg2; rw [List.nil_append] at hR2 ⊢; have HR2 := Lib.hid (Kd.R_reads' hR2).2; have HB2 := Lib.hid hB2; clear hR2 hB2 hg2)
    | (go_at_call 16; go_loud ((with_reducible refine (HE1.out A2 c2 w2 HR2.out.2 HR2.out.1).mono ?_); rintro e_ w3 ⟨rfl, hb⟩; have HB3 := Lib.hid (below_then HB2.out HB2.out.size hb); clear hb))
    | ((with_reducible refine gate_builtin (b := .append) (xs := #[.const (.slice none 0 0), .tmp 21]) rfl ?_); at_builtin; refine R_append_wins (w0 := w) (W := w3) w.heap.size rfl (.const (.slice none 0 0)) (.tmp 21) 25 rfl Tryz.underlying25 info23 _ [] l A l.length c rfl rfl (Kd.R_nil _ _ _ _ _) (C_move HC.out HB3.out) HB3.out HB3.out.size ?hl ?_; (case hl => simp; omega); intro A4 c4 w4 hR4 hB4 hg4; rw [List.nil_append] at hR4 ⊢; have HR4 := Lib.hid (Kd.R_reads' hR4).2; have HB4 := Lib.hid hB4; clear hR4 hB4 hg4)
    | (go_at_call 16; go_loud ((with_reducible refine (HE0.out A4 c4 w4 HR4.out.2 HR4.out.1).mono ?_); rintro e_ w5 ⟨rfl, hb⟩; have HB5 := Lib.hid (below_then HB4.out HB4.out.size hb); clear hb))
    | (go_at_call 11; go_loud ((with_reducible refine (awake_any w.heap.size pe pl w5 (HE.out.below HB5.out) HB5.out.size).mono ?_); rintro e_ w6 ⟨rfl, hb⟩; have HB6 := Lib.hid (below_then HB5.out HB5.out.size hb); clear hb))
    | (go_at_call 15; go_loud ((with_reducible refine (HSO.out w6 (C_move HC.out HB6.out)).mono ?_); rintro e_ w7 ⟨v, rfl, hR7, hb⟩; obtain ⟨A7, c7, e7⟩ := Kd.R_slice hR7; subst e7; rw [List.length_map] at hR7 ⊢; have HR7 := Lib.hid (Kd.R_reads' hR7).2; have HB7 := Lib.hid (below_then HB6.out HB6.out.size hb); clear hR7 hb))
    | (go_at_call 26; go_loud ((with_reducible refine (HSC.out A7 c7 w7 (by have := HR7.out.2; first | exact this | (rw [List.length_map] at this; exact this)) (by have := HR7.out.1; first | exact this | (rw [List.length_map] at this; exact this))).mono ?_); rintro e_ w8 ⟨rfl, hb⟩; have HB8 := Lib.hid (below_then HB7.out HB7.out.size hb); clear hb))
    | (go_at_call 26; go_loud ((with_reducible refine (spansCoded_0 _ w8).mono ?_); rintro e_ w9 ⟨rfl, hw⟩; have HB9 := Lib.hid (show Below w.heap.size w w9 by rw [hw]; exact HB8.out); clear hw)))
  go_ret
  exact ⟨rfl, HB9.out⟩
theorem wins_not (pe pl : Addr) (A : Option Addr) (c : Nat) (l : List S23) (w : World) (he : Env w.heap.size pe pl w) (hC : Kd.C k23 w A l.length l) (hc : l.length ≤ c) (hf : laws_codSpanFew.f (l.length + 1) l = some false) (h1 : ¬ 2147483647 < l.length) :
    Calls Tryz.prog 6 #[.slice A l.length c] w fun x w' => x = .returned (.bool true) ∧ Below w.heap.size w w' := by
  have HE := Lib.hid he
  have HF := Lib.hid (laws_codSpanFew.calls _ A c l false w hC hc hf)
  have h2 : ¬ 2147483647 < (l.length : Int) := by omega
  clear he hC hc hf h1
  go_enter Tryz.func6, Tryz.ntmps6
  go_wp2_with (first
    | (go_at_call 10; go_loud ((with_reducible refine HF.out.mono ?_); rintro e_ w1 ⟨rfl, hb⟩; have HB1 := Lib.hid hb; clear hb))
    | (go_at_call 11; go_loud ((with_reducible refine (awake_any w.heap.size pe pl w1 (HE.out.below HB1.out) HB1.out.size).mono ?_); rintro e_ w6 ⟨rfl, hb⟩; have HB6 := Lib.hid (below_then HB1.out HB1.out.size hb); clear hb)))
  go_ret
  exact ⟨rfl, HB6.out⟩
theorem wins_long (A : Option Addr) (c : Nat) (l : List S23) (w : World) (h1 : 2147483647 < l.length) :
    Calls Tryz.prog 6 #[.slice A l.length c] w fun x w' => x = .returned (.bool true) ∧ Below w.heap.size w w' := by
  have h2 : 2147483647 < (l.length : Int) := by omega
  clear h1
  go_enter Tryz.func6, Tryz.ntmps6
  go_wp2
  go_ret
  exact ⟨rfl, Below.refl _ w⟩
theorem wins_row (pe pl : Addr) (A : Option Addr) (c : Nat) (l : List S23) (w : World) (he : Env w.heap.size pe pl w) (hC : Kd.C k23 w A l.length l) (hc : l.length ≤ c) :
    Calls Tryz.prog 6 #[.slice A l.length c] w fun x w' => x = .returned (.bool true) ∧ Below w.heap.size w w' := by
  by_cases h1 : 2147483647 < l.length
  · exact wins_long A c l w h1
  obtain ⟨b, hf, hg⟩ := few_f l
  cases b with
  | false => exact wins_not pe pl A c l w he hC hc hf h1
  | true => exact wins_ok pe pl A c l w he hC hc hf (hg rfl).1 (hg rfl).2
end Go.Proofs.YtgdbeiadlgkedaaGreatDoor
set_option linter.unusedVariables false
set_option linter.unusedSimpArgs false
namespace Go.Proofs.YtgdbeiadlgkedaaGreatDoor
open Go.RowKit Go.Deep PFnWindowOne Go.Proofs.YtgdbeiadlgkedaaGreatDoorW.PrintWords
theorem choose_list {α : Type} {n : Nat} {p : Nat → α → Prop} (h : ∀ i, i < n → ∃ x, p i x) : ∃ xs : List α, xs.length = n ∧ ∀ i x, xs[i]? = some x → p i x := by
  induction n with
  | zero => exact ⟨[], rfl, by simp⟩
  | succ n ih =>
    obtain ⟨xs, hl, hx⟩ := ih (fun i hi => h i (by omega))
    obtain ⟨y, hy⟩ := h n (by omega)
    refine ⟨xs ++ [y], by simp [hl], fun i x hi => ?_⟩
    by_cases hlt : i < xs.length
    · rw [List.getElem?_append_left hlt] at hi; exact hx i x hi
    · rw [List.getElem?_append_right (by omega)] at hi
      have e : i = n := by
        have := (List.getElem?_eq_some_iff.1 hi).1
        simp at this; omega
      subst e
      simp [hl] at hi
      exact hi ▸ hy
theorem open_kd {α H : Type} {enc : TypeId × Value → H} {P : Program} {W : World} {sp : Nat → Bool} {held : Bool} (d : Kd α) {Good : α → Prop} {t e : TypeId} (ht : P.underlying t = some (.slice e)) (hce : P.cellsOf e = d.sz)
    (hel : ∀ n cs x, cs.length = d.sz → DataW.trod enc P W 0 sp held n e cs = some x → ∃ a : α, d.K W a cs ∧ Good a)
    {A0 : Option Addr} {n0 c0 : Nat} {ds : DataW H} {ps : List MemPlace} (h : DataW.Trod enc P W 0 sp held t (.slice A0 n0 c0) ds ps) :
    ∃ xs : List α, n0 = xs.length ∧ xs.length ≤ c0 ∧ d.C W A0 xs.length xs ∧ ∀ x ∈ xs, Good x := by
  obtain ⟨fuel, hf⟩ := h
  rcases open_slice ht hf with ⟨hcs, _⟩ | ⟨a, len, cap, m, n, D, Pl, hcs, hb, hl, hm, hmm, hx, hall⟩
  · simp [Value.cells] at hcs
    obtain ⟨rfl, rfl, rfl⟩ := hcs
    exact ⟨[], rfl, Nat.le_refl _, Kd.C_nil d W, by simp⟩
  · simp [Value.cells] at hcs
    obtain ⟨rfl, rfl, rfl⟩ := hcs
    have hlm : n0 ≤ m := by rw [hmm]; split <;> omega
    have each : ∀ i, i < n0 → ∃ x : α, Good x ∧ ∃ c, c.length = d.sz ∧ d.K W x c ∧ ∀ j u, c[j]? = some u → W.cell? (a.add (i * d.sz + j)) = some u := by
      intro i hi
      obtain ⟨cs', h1, h2⟩ := hall i (by omega)
      rw [hce] at h1
      obtain ⟨_, hlen, hcell⟩ := World.cells?_some h1
      obtain ⟨x, hK, hG⟩ := hel _ _ _ hlen h2
      refine ⟨x, hG, cs', hlen, hK, fun j u hu => ?_⟩
      have hj : j < d.sz := by rw [← hlen]; exact (List.getElem?_eq_some_iff.1 hu).1
      rw [← Deep.add_add, hcell j hj]; exact hu
    obtain ⟨xs, hxl, hxs⟩ := choose_list each
    refine ⟨xs, hxl.symm, by omega, ⟨rfl, ?_, fun _ => ⟨a, rfl, fun j p hj => (hxs j p hj).2⟩⟩, fun x hx => ?_⟩
    · have : maxLen ≤ 9223372036854775807 := by decide
      omega
    · obtain ⟨i, hi⟩ := List.getElem?_of_mem hx
      exact (hxs i x hi).1
theorem list3 {α : Type} {l : List α} (h : l.length = 3) : ∃ a b c, l = [a, b, c] := by
  match l, h with
  | [a, b, c], _ => exact ⟨a, b, c, rfl⟩
theorem open_sp {H : Type} {enc : TypeId × Value → H} {W : World} {sp : Nat → Bool} {held : Bool} {A0 : Option Addr} {n0 c0 : Nat} {ds : DataW H} {ps : List MemPlace} (h : DataW.Trod enc Tryz.prog W 0 sp held 25 (.slice A0 n0 c0) ds ps) :
    ∃ xs : List S23, n0 = xs.length ∧ xs.length ≤ c0 ∧ k23.C W A0 xs.length xs := by
  obtain ⟨xs, e, hc, hC, _⟩ := open_kd (Good := fun _ => True) k23 Tryz.underlying25 (by kernel_rfl) (fun n cs x hl hx => by
    obtain ⟨y0, y1, y2, k, hxy, _, u0, u1, u2⟩ := trod_struct3 Tryz.underlying23 hx
    have hl3 : cs.length = 3 := hl
    clear hl hx
    obtain ⟨v0, v1, v2, rfl⟩ := list3 hl3
    clear hl3
    · rw [show Tryz.prog.cellsOf 4 = 1 from by kernel_rfl] at u0
      rw [show Tryz.prog.cellsOf 2 = 1 from by kernel_rfl] at u1 u2
      simp only [List.drop, List.take] at u0 u1 u2
      obtain ⟨s, e0, d0⟩ := DataW.trod_bool Tryz.underlying4 u0
      obtain ⟨q, e1, d1, _⟩ := DataW.trod_int Tryz.underlying2 u1
      obtain ⟨p, e2, d2, _⟩ := DataW.trod_int Tryz.underlying2 u2
      simp only [List.cons.injEq, and_true] at e0 e1 e2
      subst e0; subst e1; subst e2
      exact ⟨⟨s, q, p⟩, Kd.K_of_M _ (k23_mkM W 0 (fun _ => True) ⟨s, q, p⟩), trivial⟩) h
  exact ⟨xs, e, hc, hC⟩
end Go.Proofs.YtgdbeiadlgkedaaGreatDoor
