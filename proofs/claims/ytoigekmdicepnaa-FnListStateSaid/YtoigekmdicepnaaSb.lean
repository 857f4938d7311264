/- Contracts of the provider's methods, and of a value that is written, cleared, read. -/
import Derived.Test.YtoigekmdicepnaaSa
import Derived.Handy
set_option linter.unusedVariables false
set_option linter.unusedSimpArgs false
namespace Go.Proofs.Ytoigekmdicepnaa
open Go.RowKit Go.Proofs.YtoigekmdicepnaaW.PrintWords Go.Proofs.YtoigekmdicepnaaW.PrintLast Go.Proofs.YtoigekmdicepnaaW.PrintMore

set_option maxRecDepth 100000 in
theorem wr160_any (g base : Nat) (p : Pv) (trs : List Tr) (k : ByteArray) (t : Int) (m v : Av) (w0 w : World) (h : WV w g base p trs) (hB : Below base w0 w) (hl : trs.length ≤ 1000000000) :
    Calls Try.prog 160 #[.pointer (some ⟨g, 0, none⟩), .agg #[.string k, .int .i32 t, m.val, v.val]] w fun e w' => e = .returned .nilIface ∧ WV w' g base p (trs ++ [⟨k, t, m, v⟩]) ∧ Keep w w' ∧ Below base w0 w' := by
  have HBS := h.base_le
  have HW := Aside0.mk (h.below (below_alloc (Below.refl _ _) (.cells #[.string k, .int .i32 t, m.val, v.val] 172)))
  have HK := Aside0.mk (Keep.below (below_alloc (Below.refl w.heap.size w) (.cells #[.string k, .int .i32 t, m.val, v.val] 172)))
  have HB := Aside0.mk (hB.alloc HBS (.cells #[.string k, .int .i32 t, m.val, v.val] 172))
  have HL := Aside0.mk hl
  clear h hB hl
  go_enter Try.func160, Try.ntmps160
  go_wp2_with (go_at_call 161; refine (keep_any g base p trs k t m v w0 _ HW.out HB.out HL.out).mono ?_; rintro e w2 ⟨rfl, h1, h2, h3⟩; have H1 := Aside0.mk h1; have H2 := Aside0.mk h2; have H3 := Aside0.mk h3; clear h1 h2 h3)
  go_ret
  exact ⟨rfl, H1.out, HK.out.trans H2.out, H3.out⟩

set_option maxRecDepth 100000 in
theorem wr151_any (g base : Nat) (p : Pv) (trs : List Tr) (k : ByteArray) (t : Int) (m v : Av) (w0 w : World) (h : WV w g base p trs) (hB : Below base w0 w) (hl : trs.length ≤ 1000000000) :
    Calls Try.prog 151 #[.pointer (some ⟨g, 0, none⟩), .agg #[.string k, .int .i32 t, m.val, v.val]] w fun e w' => e = .returned .nilIface ∧ WV w' g base p (trs ++ [⟨k, t, m, v⟩]) ∧ Keep w w' ∧ Below base w0 w' := by
  have HBS := h.base_le
  have HW := Aside0.mk (h.below (below_alloc (Below.refl _ _) (.cells #[.string k, .int .i32 t, m.val, v.val] 172)))
  have HK := Aside0.mk (Keep.below (below_alloc (Below.refl w.heap.size w) (.cells #[.string k, .int .i32 t, m.val, v.val] 172)))
  have HB := Aside0.mk (hB.alloc HBS (.cells #[.string k, .int .i32 t, m.val, v.val] 172))
  have HL := Aside0.mk hl
  clear h hB hl
  go_enter Try.func151, Try.ntmps151
  go_wp2_with (go_at_call 161; refine (keep_any g base p trs k t m v w0 _ HW.out HB.out HL.out).mono ?_; rintro e w2 ⟨rfl, h1, h2, h3⟩; have H1 := Aside0.mk h1; have H2 := Aside0.mk h2; have H3 := Aside0.mk h3; clear h1 h2 h3)
  go_ret
  exact ⟨rfl, H1.out, HK.out.trans H2.out, H3.out⟩

set_option maxRecDepth 100000 in
theorem wr157_any (g base : Nat) (p : Pv) (trs : List Tr) (k : ByteArray) (t : Int) (m v : Av) (w0 w : World) (h : WV w g base p trs) (hB : Below base w0 w) (hl : trs.length ≤ 1000000000) :
    Calls Try.prog 157 #[.pointer (some ⟨g, 0, none⟩), .agg #[.string k, .int .i32 t, m.val, v.val]] w fun e w' => e = .returned .nilIface ∧ WV w' g base p (trs ++ [⟨k, t, m, v⟩]) ∧ Keep w w' ∧ Below base w0 w' := by
  have HBS := h.base_le
  have HW := Aside0.mk (h.below (below_alloc (Below.refl _ _) (.cells #[.string k, .int .i32 t, m.val, v.val] 172)))
  have HK := Aside0.mk (Keep.below (below_alloc (Below.refl w.heap.size w) (.cells #[.string k, .int .i32 t, m.val, v.val] 172)))
  have HB := Aside0.mk (hB.alloc HBS (.cells #[.string k, .int .i32 t, m.val, v.val] 172))
  have HL := Aside0.mk hl
  clear h hB hl
  go_enter Try.func157, Try.ntmps157
  go_wp2_with (go_at_call 161; refine (keep_any g base p trs k t m v w0 _ HW.out HB.out HL.out).mono ?_; rintro e w2 ⟨rfl, h1, h2, h3⟩; have H1 := Aside0.mk h1; have H2 := Aside0.mk h2; have H3 := Aside0.mk h3; clear h1 h2 h3)
  go_ret
  exact ⟨rfl, H1.out, HK.out.trans H2.out, H3.out⟩

set_option maxRecDepth 100000 in
theorem wr147_any (g base : Nat) (p : Pv) (trs : List Tr) (k : ByteArray) (t : Int) (m v : Av) (w0 w : World) (h : WV w g base p trs) (hB : Below base w0 w) (hl : trs.length ≤ 1000000000) :
    Calls Try.prog 147 #[.pointer (some ⟨g, 0, none⟩), .agg #[.string k, .int .i32 t, m.val, v.val]] w fun e w' => e = .returned .nilIface ∧ WV w' g base p (trs ++ [⟨k, t, m, v⟩]) ∧ Keep w w' ∧ Below base w0 w' := by
  have HBS := h.base_le
  have HW := Aside0.mk (h.below (below_alloc (Below.refl _ _) (.cells #[.string k, .int .i32 t, m.val, v.val] 172)))
  have HK := Aside0.mk (Keep.below (below_alloc (Below.refl w.heap.size w) (.cells #[.string k, .int .i32 t, m.val, v.val] 172)))
  have HB := Aside0.mk (hB.alloc HBS (.cells #[.string k, .int .i32 t, m.val, v.val] 172))
  have HL := Aside0.mk hl
  clear h hB hl
  go_enter Try.func147, Try.ntmps147
  go_wp2_with (go_at_call 161; refine (keep_any g base p trs k t m v w0 _ HW.out HB.out HL.out).mono ?_; rintro e w2 ⟨rfl, h1, h2, h3⟩; have H1 := Aside0.mk h1; have H2 := Aside0.mk h2; have H3 := Aside0.mk h3; clear h1 h2 h3)
  go_ret
  exact ⟨rfl, H1.out, HK.out.trans H2.out, H3.out⟩

set_option maxRecDepth 100000 in
theorem wr158_any (g base : Nat) (p : Pv) (trs : List Tr) (k : ByteArray) (t : Int) (m v : Av) (w0 w : World) (h : WV w g base p trs) (hB : Below base w0 w) (hl : trs.length ≤ 1000000000) :
    Calls Try.prog 158 #[.pointer (some ⟨g, 0, none⟩), .agg #[.string k, .int .i32 t, m.val, v.val]] w fun e w' => e = .returned .nilIface ∧ WV w' g base p (trs ++ [⟨k, t, m, v⟩]) ∧ Keep w w' ∧ Below base w0 w' := by
  have HBS := h.base_le
  have HW := Aside0.mk (h.below (below_alloc (Below.refl _ _) (.cells #[.string k, .int .i32 t, m.val, v.val] 172)))
  have HK := Aside0.mk (Keep.below (below_alloc (Below.refl w.heap.size w) (.cells #[.string k, .int .i32 t, m.val, v.val] 172)))
  have HB := Aside0.mk (hB.alloc HBS (.cells #[.string k, .int .i32 t, m.val, v.val] 172))
  have HL := Aside0.mk hl
  clear h hB hl
  go_enter Try.func158, Try.ntmps158
  go_wp2_with (go_at_call 161; refine (keep_any g base p trs k t m v w0 _ HW.out HB.out HL.out).mono ?_; rintro e w2 ⟨rfl, h1, h2, h3⟩; have H1 := Aside0.mk h1; have H2 := Aside0.mk h2; have H3 := Aside0.mk h3; clear h1 h2 h3)
  go_ret
  exact ⟨rfl, H1.out, HK.out.trans H2.out, H3.out⟩

set_option maxRecDepth 100000 in
theorem wr149_any (g base : Nat) (p : Pv) (trs : List Tr) (k : ByteArray) (t : Int) (m v : Av) (w0 w : World) (h : WV w g base p trs) (hB : Below base w0 w) (hl : trs.length ≤ 1000000000) :
    Calls Try.prog 149 #[.pointer (some ⟨g, 0, none⟩), .agg #[.string k, .int .i32 t, m.val, v.val]] w fun e w' => e = .returned .nilIface ∧ WV w' g base p (trs ++ [⟨k, t, m, v⟩]) ∧ Keep w w' ∧ Below base w0 w' := by
  have HBS := h.base_le
  have HW := Aside0.mk (h.below (below_alloc (Below.refl _ _) (.cells #[.string k, .int .i32 t, m.val, v.val] 172)))
  have HK := Aside0.mk (Keep.below (below_alloc (Below.refl w.heap.size w) (.cells #[.string k, .int .i32 t, m.val, v.val] 172)))
  have HB := Aside0.mk (hB.alloc HBS (.cells #[.string k, .int .i32 t, m.val, v.val] 172))
  have HL := Aside0.mk hl
  clear h hB hl
  go_enter Try.func149, Try.ntmps149
  go_wp2_with (go_at_call 161; refine (keep_any g base p trs k t m v w0 _ HW.out HB.out HL.out).mono ?_; rintro e w2 ⟨rfl, h1, h2, h3⟩; have H1 := Aside0.mk h1; have H2 := Aside0.mk h2; have H3 := Aside0.mk h3; clear h1 h2 h3)
  go_ret
  exact ⟨rfl, H1.out, HK.out.trans H2.out, H3.out⟩

set_option maxRecDepth 100000 in
theorem wr148_any (g base : Nat) (p : Pv) (trs : List Tr) (k : ByteArray) (t : Int) (m v : Av) (w0 w : World) (h : WV w g base p trs) (hB : Below base w0 w) (hl : trs.length ≤ 1000000000) :
    Calls Try.prog 148 #[.pointer (some ⟨g, 0, none⟩), .agg #[.string k, .int .i32 t, m.val, v.val]] w fun e w' => e = .returned .nilIface ∧ WV w' g base p (trs ++ [⟨k, t, m, v⟩]) ∧ Keep w w' ∧ Below base w0 w' := by
  have HBS := h.base_le
  have HW := Aside0.mk (h.below (below_alloc (Below.refl _ _) (.cells #[.string k, .int .i32 t, m.val, v.val] 172)))
  have HK := Aside0.mk (Keep.below (below_alloc (Below.refl w.heap.size w) (.cells #[.string k, .int .i32 t, m.val, v.val] 172)))
  have HB := Aside0.mk (hB.alloc HBS (.cells #[.string k, .int .i32 t, m.val, v.val] 172))
  have HL := Aside0.mk hl
  clear h hB hl
  go_enter Try.func148, Try.ntmps148
  go_wp2_with (go_at_call 161; refine (keep_any g base p trs k t m v w0 _ HW.out HB.out HL.out).mono ?_; rintro e w2 ⟨rfl, h1, h2, h3⟩; have H1 := Aside0.mk h1; have H2 := Aside0.mk h2; have H3 := Aside0.mk h3; clear h1 h2 h3)
  go_ret
  exact ⟨rfl, H1.out, HK.out.trans H2.out, H3.out⟩

set_option maxRecDepth 100000 in
theorem wr159_any (g base : Nat) (p : Pv) (trs : List Tr) (k : ByteArray) (t : Int) (m v : Av) (w0 w : World) (h : WV w g base p trs) (hB : Below base w0 w) (hl : trs.length ≤ 1000000000) :
    Calls Try.prog 159 #[.pointer (some ⟨g, 0, none⟩), .agg #[.string k, .int .i32 t, m.val, v.val]] w fun e w' => e = .returned .nilIface ∧ WV w' g base p (trs ++ [⟨k, t, m, v⟩]) ∧ Keep w w' ∧ Below base w0 w' := by
  have HBS := h.base_le
  have HW := Aside0.mk (h.below (below_alloc (Below.refl _ _) (.cells #[.string k, .int .i32 t, m.val, v.val] 172)))
  have HK := Aside0.mk (Keep.below (below_alloc (Below.refl w.heap.size w) (.cells #[.string k, .int .i32 t, m.val, v.val] 172)))
  have HB := Aside0.mk (hB.alloc HBS (.cells #[.string k, .int .i32 t, m.val, v.val] 172))
  have HL := Aside0.mk hl
  clear h hB hl
  go_enter Try.func159, Try.ntmps159
  go_wp2_with (go_at_call 161; refine (keep_any g base p trs k t m v w0 _ HW.out HB.out HL.out).mono ?_; rintro e w2 ⟨rfl, h1, h2, h3⟩; have H1 := Aside0.mk h1; have H2 := Aside0.mk h2; have H3 := Aside0.mk h3; clear h1 h2 h3)
  go_ret
  exact ⟨rfl, H1.out, HK.out.trans H2.out, H3.out⟩

set_option maxRecDepth 100000 in
theorem wr150_any (g base : Nat) (p : Pv) (trs : List Tr) (k : ByteArray) (t : Int) (m v : Av) (w0 w : World) (h : WV w g base p trs) (hB : Below base w0 w) (hl : trs.length ≤ 1000000000) :
    Calls Try.prog 150 #[.pointer (some ⟨g, 0, none⟩), .agg #[.string k, .int .i32 t, m.val, v.val]] w fun e w' => e = .returned .nilIface ∧ WV w' g base p (trs ++ [⟨k, t, m, v⟩]) ∧ Keep w w' ∧ Below base w0 w' := by
  have HBS := h.base_le
  have HW := Aside0.mk (h.below (below_alloc (Below.refl _ _) (.cells #[.string k, .int .i32 t, m.val, v.val] 172)))
  have HK := Aside0.mk (Keep.below (below_alloc (Below.refl w.heap.size w) (.cells #[.string k, .int .i32 t, m.val, v.val] 172)))
  have HB := Aside0.mk (hB.alloc HBS (.cells #[.string k, .int .i32 t, m.val, v.val] 172))
  have HL := Aside0.mk hl
  clear h hB hl
  go_enter Try.func150, Try.ntmps150
  go_wp2_with (go_at_call 161; refine (keep_any g base p trs k t m v w0 _ HW.out HB.out HL.out).mono ?_; rintro e w2 ⟨rfl, h1, h2, h3⟩; have H1 := Aside0.mk h1; have H2 := Aside0.mk h2; have H3 := Aside0.mk h3; clear h1 h2 h3)
  go_ret
  exact ⟨rfl, H1.out, HK.out.trans H2.out, H3.out⟩

set_option maxRecDepth 100000 in
theorem rd156_any (g base : Nat) (p : Pv) (trs : List Tr) (s : ByteArray) (w : World) (h : WV w g base p trs) :
    Calls Try.prog 156 #[.pointer (some ⟨g, 0, none⟩), .string s] w fun e w' => ∃ A c, e = .returned (.tuple #[p.v, .slice A trs.length c, .nilIface]) ∧ Kd.C kTr w A trs.length trs ∧ trs.length ≤ c ∧ Below w.heap.size w w' := by
  obtain ⟨d, hg, hR, hbg⟩ := h
  obtain ⟨A, c, rfl, hc, hC⟩ := Kd.R_reads hR
  have x0 := (blk_cell hg 0).trans (rfl : _ = some p.v)
  have x5 := (blk_cell hg 5).trans (rfl : _ = some (Value.slice A trs.length c))
  have HC := Aside0.mk hC
  have HCC := Aside0.mk hc
  clear hg hR hbg hc hC
  go_enter Try.func156, Try.ntmps156
  go_wp2
  repeat (go_quiet (fail); try go_wp2)
  go_ret3
  exact ⟨_, _, rfl, HC.out, HCC.out, by repeat (first | exact Below.refl _ _ | apply below_alloc | apply below_drew | apply pw_below_drewN)⟩

set_option maxRecDepth 100000 in
theorem rd152_any (g base : Nat) (p : Pv) (trs : List Tr) (s : ByteArray) (w : World) (h : WV w g base p trs) :
    Calls Try.prog 152 #[.pointer (some ⟨g, 0, none⟩), .string s] w fun e w' => ∃ A c, e = .returned (.tuple #[p.b, .slice A trs.length c, .nilIface]) ∧ Kd.C kTr w A trs.length trs ∧ trs.length ≤ c ∧ Below w.heap.size w w' := by
  obtain ⟨d, hg, hR, hbg⟩ := h
  obtain ⟨A, c, rfl, hc, hC⟩ := Kd.R_reads hR
  have x0 := (blk_cell hg 1).trans (rfl : _ = some p.b)
  have x5 := (blk_cell hg 5).trans (rfl : _ = some (Value.slice A trs.length c))
  have HC := Aside0.mk hC
  have HCC := Aside0.mk hc
  clear hg hR hbg hc hC
  go_enter Try.func152, Try.ntmps152
  go_wp2
  repeat (go_quiet (fail); try go_wp2)
  go_ret3
  exact ⟨_, _, rfl, HC.out, HCC.out, by repeat (first | exact Below.refl _ _ | apply below_alloc | apply below_drew | apply pw_below_drewN)⟩

set_option maxRecDepth 100000 in
theorem rd153_any (g base : Nat) (p : Pv) (trs : List Tr) (s : ByteArray) (w : World) (h : WV w g base p trs) :
    Calls Try.prog 153 #[.pointer (some ⟨g, 0, none⟩), .string s] w fun e w' => ∃ A c, e = .returned (.tuple #[p.k, .slice A trs.length c, .nilIface]) ∧ Kd.C kTr w A trs.length trs ∧ trs.length ≤ c ∧ Below w.heap.size w w' := by
  obtain ⟨d, hg, hR, hbg⟩ := h
  obtain ⟨A, c, rfl, hc, hC⟩ := Kd.R_reads hR
  have x0 := (blk_cell hg 2).trans (rfl : _ = some p.k)
  have x5 := (blk_cell hg 5).trans (rfl : _ = some (Value.slice A trs.length c))
  have HC := Aside0.mk hC
  have HCC := Aside0.mk hc
  clear hg hR hbg hc hC
  go_enter Try.func153, Try.ntmps153
  go_wp2
  repeat (go_quiet (fail); try go_wp2)
  go_ret3
  exact ⟨_, _, rfl, HC.out, HCC.out, by repeat (first | exact Below.refl _ _ | apply below_alloc | apply below_drew | apply pw_below_drewN)⟩

set_option maxRecDepth 100000 in
theorem rd155_any (g base : Nat) (p : Pv) (trs : List Tr) (s : ByteArray) (w : World) (h : WV w g base p trs) :
    Calls Try.prog 155 #[.pointer (some ⟨g, 0, none⟩), .string s] w fun e w' => ∃ A c, e = .returned (.tuple #[p.l, .slice A trs.length c, .nilIface]) ∧ Kd.C kTr w A trs.length trs ∧ trs.length ≤ c ∧ Below w.heap.size w w' := by
  obtain ⟨d, hg, hR, hbg⟩ := h
  obtain ⟨A, c, rfl, hc, hC⟩ := Kd.R_reads hR
  have x0 := (blk_cell hg 4).trans (rfl : _ = some p.l)
  have x5 := (blk_cell hg 5).trans (rfl : _ = some (Value.slice A trs.length c))
  have HC := Aside0.mk hC
  have HCC := Aside0.mk hc
  clear hg hR hbg hc hC
  go_enter Try.func155, Try.ntmps155
  go_wp2
  repeat (go_quiet (fail); try go_wp2)
  go_ret3
  exact ⟨_, _, rfl, HC.out, HCC.out, by repeat (first | exact Below.refl _ _ | apply below_alloc | apply below_drew | apply pw_below_drewN)⟩
end Go.Proofs.Ytoigekmdicepnaa
