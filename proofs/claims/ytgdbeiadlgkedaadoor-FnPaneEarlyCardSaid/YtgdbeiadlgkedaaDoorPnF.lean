/- Contract: EncodeValue of a pane. -/
import Derived.Test.YtgdbeiadlgkedaaDoorPnE
set_option linter.unusedVariables false
set_option linter.unusedSimpArgs false
namespace Go.Proofs.YtgdbeiadlgkedaaDoor
open Go.RowKit Go.Proofs.YtgdbeiadlgkedaaDoorW.PrintWords Go.Proofs.YtgdbeiadlgkedaaDoorW.PrintLast Go.Proofs.YtgdbeiadlgkedaaDoorW.PrintMore
theorem enc_below3 {w w1 w2 w3 : World} {o o2 : Obj} {k : Nat} (h0 : Below ((w.alloc o).alloc o2).heap.size ((w.alloc o).alloc o2) w1) (h : Below (w.heap.size + 1) w1 w2) (h3 : w3 = w2.drewN k) : Below w.heap.size w w3 := by
  subst h3
  have a : Below w.heap.size w w1 := (((Below.refl _ w).alloc (Nat.le_refl _) o).alloc (by simp) o2).trans (h0.mono (by simp; omega))
  have h1 := a.trans (h.mono (by omega))
  exact ⟨h1.os, h1.tape, h1.output, h1.size, h1.block⟩
theorem encPane_bad' (B b : Nat) (t : Nat) (t0 : t = 0) (f l : Bool) (i n : Int) (hin : i ≠ n) (hn : n ≠ -1) (l0 : List UInt8) (w : World) (h : Bf B b l0 w) (hlim : l0.length + 100 ≤ 140737488355328) :
    Calls Tryd.prog 75 #[.agg #[.int .u8 t, .bool f, .bool l, .int .i64 i, .int .i64 n], bfI b] w fun e w' => ∃ a s, e = .returned (errV a) ∧ w'.cell? a = some (.string s) ∧ s.data.toList ≠ [] ∧ Below B w w' ∧ Bf B b l0 w' := by
  subst t0
  exact encPane_bad B b f l i n hin hn l0 w h hlim

set_option maxHeartbeats 4000000 in
set_option maxRecDepth 100000 in
theorem encVal_6 (fl : Bool) (m u bb : Int) (tx : ByteArray) (t : Nat) (f l : Bool) (i n : Int) (ht : t < 4) (hok : t = 0 → n = -1 ∨ (i = 0 ∧ n = 0)) (w : World) :
    Calls Tryd.prog 27 #[.agg #[.int .i64 6, .bool fl, .int .i64 m, .int .u64 u, .int .u64 bb, .string tx, .int .i64 t, .bool f, .bool l, .int .i64 i, .int .i64 n]] w fun e w' => e = .returned (.tuple #[.string ⟨(pbytes t f l i n).toArray⟩, .string ⟨#[]⟩]) ∧ Below w.heap.size w w' := by
  have hF : Bf (w.heap.size + 1) (w.heap.size + 1) [] ((w.alloc (.cells #[.int .i64 6, .bool fl, .int .i64 m, .int .u64 u, .int .u64 bb, .string tx, .int .i64 t, .bool f, .bool l, .int .i64 i, .int .i64 n] 26)).alloc (.cells #[.slice none 0 0, .int .i64 0, .int .i8 0] 129)) := by
    have := fresh_Bf (w.alloc (.cells #[.int .i64 6, .bool fl, .int .i64 m, .int .u64 u, .int .u64 bb, .string tx, .int .i64 t, .bool f, .bool l, .int .i64 i, .int .i64 n] 26)); rwa [World.size_alloc] at this
  have HF := Lib.hid hF
  have HT := Lib.hid ht
  have HO := Lib.hid hok
  clear ht hok
  clear hF
  go_enter Tryd.func27, Tryd.ntmps27
  go_wp2_with (first
    | (go_at_call 76; (with_reducible refine (pane_any t f l i n HT.out _).mono ?_); rintro e_ w1 ⟨rfl, hb⟩; have HB := Lib.hid hb; have HF1 := Lib.hid (HF.out.old hb); clear hb)
    | (go_at_call 75; (with_reducible refine (encPane_ok _ _ t HT.out f l i n HO.out [] w1 HF1.out (by decide)).mono ?_); rintro e_ w2 ⟨rfl, h1, h2⟩; have H1 := Lib.hid h1; have H2 := Lib.hid h2; clear h1 h2)
    | (go_at_call 84; refine (string_any _ _ _ _ H1.out).mono ?_; rintro e_ w3 ⟨rfl, q2, hq⟩; have HQ := Lib.hid (enc_below3 HB.out H2.out hq); clear hq)
    | (go_at_call 63; refine (word_nil _).mono ?_; rintro e_ w4 ⟨rfl, rfl⟩))
  all_goals (go_ret2; exact ⟨rfl, HQ.out⟩)

set_option maxHeartbeats 4000000 in
set_option maxRecDepth 100000 in
theorem encVal_6bad (fl : Bool) (m u bb : Int) (tx : ByteArray) (t : Nat) (f l : Bool) (i n : Int) (ht0 : t = 0) (hin : i ≠ n) (hn : n ≠ -1) (w : World) :
    Calls Tryd.prog 27 #[.agg #[.int .i64 6, .bool fl, .int .i64 m, .int .u64 u, .int .u64 bb, .string tx, .int .i64 t, .bool f, .bool l, .int .i64 i, .int .i64 n]] w fun e w' => ∃ s, e = .returned (.tuple #[.string ⟨#[]⟩, .string s]) ∧ s.data.toList ≠ [] ∧ Below w.heap.size w w' := by
  have hF : Bf (w.heap.size + 1) (w.heap.size + 1) [] ((w.alloc (.cells #[.int .i64 6, .bool fl, .int .i64 m, .int .u64 u, .int .u64 bb, .string tx, .int .i64 t, .bool f, .bool l, .int .i64 i, .int .i64 n] 26)).alloc (.cells #[.slice none 0 0, .int .i64 0, .int .i8 0] 129)) := by
    have := fresh_Bf (w.alloc (.cells #[.int .i64 6, .bool fl, .int .i64 m, .int .u64 u, .int .u64 bb, .string tx, .int .i64 t, .bool f, .bool l, .int .i64 i, .int .i64 n] 26)); rwa [World.size_alloc] at this
  have HF := Lib.hid hF
  have HT := Lib.hid (show t < 4 by omega)
  have HT0 := Lib.hid ht0
  clear ht0
  have HI := Lib.hid hin
  have HN := Lib.hid hn
  clear hin hn
  clear hF
  go_enter Tryd.func27, Tryd.ntmps27
  go_wp2_with (first
    | (go_at_call 76; (with_reducible refine (pane_any t f l i n HT.out _).mono ?_); rintro e_ w1 ⟨rfl, hb⟩; have HB := Lib.hid hb; have HF1 := Lib.hid (HF.out.old hb); clear hb)
    | (go_at_call 75; (with_reducible refine (encPane_bad' _ _ t HT0.out f l i n HI.out HN.out [] w1 HF1.out (by decide)).mono ?_); rintro e_ w2 ⟨ea, es, rfl, h0, hne, h2, h1⟩; have H1 := Lib.hid h1; have H2 := Lib.hid h2; have H0 := Lib.hid h0; have HE := Lib.hid hne; clear h1 h2 h0 hne)
    | (go_at_call 84; refine (string_any _ _ _ _ H1.out).mono ?_; rintro e_ w3 ⟨rfl, q2, rfl⟩; have HQ := Lib.hid (enc_below3 HB.out H2.out (rfl : w2.drewN q2 = w2.drewN q2)))
    | (go_at_call 63; refine (word_err ea es _ (by simpa using H0.out)).mono ?_; rintro e_ w4 ⟨rfl, rfl⟩))
  all_goals (go_ret2; exact ⟨es, rfl, HE.out, HQ.out⟩)
end Go.Proofs.YtgdbeiadlgkedaaDoor
