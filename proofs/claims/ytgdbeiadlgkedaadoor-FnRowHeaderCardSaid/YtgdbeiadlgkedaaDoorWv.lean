/- Contracts: numbers by sevens of bits that are written. -/
import Derived.Test.YtgdbeiadlgkedaaDoorWr
import Derived.LoopTactic
import Derived.Deep.LoopGhost
import Derived.OwnWalk
import Derived.Laws.Bits64b
namespace Go.Proofs.YtgdbeiadlgkedaaDoor
open Go.RowKit
set_option linter.unusedVariables false
set_option linter.unusedSimpArgs false

theorem info_u8 : (Tryd.prog.info? 5).map (fun i => (i.zero, i.size, i.bytes)) = some (some (.int .u8 0), 1, 1) := by kernel_rfl
set_option maxRecDepth 100000 in
theorem or128 (d : Nat) (h : d < 128) : d ||| 128 = d + 128 := by
  have : ∀ a : Fin 128, (a.val ||| 128) = a.val + 128 := by decide
  exact this ⟨d, h⟩
theorem and127 (u : Nat) : u &&& 127 = u % 128 := Nat.and_two_pow_sub_one_eq_mod u 7
theorem row_out {w w1 : World} {s : List UInt8} {d : Nat} {v' : Value} {l : List UInt8} (h : w1.ownsRow w.heap.size 5 1 v' (s.length + 1) (Lib.byteCells (s ++ [d.toUInt8]))) (hl : s ++ [d.toUInt8] = l) :
    ∃ g cap, v' = .slice (some ⟨g, 0, none⟩) l.length cap ∧ Hid (w.heap.size ≤ g ∧ At w1 ⟨g, 0, none⟩ l) := by
  subst hl
  rcases h.2 with ⟨_, hn⟩ | ⟨g, cap, cur, rfl, hg, _⟩
  · omega
  · refine ⟨g, cap, by rw [List.length_append]; rfl, Lib.hid ⟨hg, fun j x hj => ?_⟩⟩
    exact h.cells (g := g) rfl j _ (by rw [Lib.byteCells, List.getElem?_map, hj]; rfl)
set_option maxHeartbeats 4000000 in
set_option maxRecDepth 100000 in
/-- EncodeVarUint64 over whatever Write does. -/
theorem encVar_abs (b v : Nat) (w : World) (hv : v < 18446744073709551616) (Q : World → Prop)
    (hW : ∀ (a : Addr) (c : Nat) (w1 : World), Below w.heap.size w w1 → w.heap.size ≤ a.block → At w1 a (Lib.uvarint v) →
      Calls Tryd.prog 102 #[bfI b, .slice (some a) (Lib.uvarint v).length c] w1 fun e w' => e = .returned (.tuple #[.int .i64 ((Lib.uvarint v).length : Nat), .nilIface]) ∧ Q w') :
    Calls Tryd.prog 83 #[.int .u64 v, bfI b] w fun e w' => e = .returned .nilIface ∧ Q w' := by
  have hmk : ∀ w : World, (Instr.makeSlice 29 (.int .i64 0) (.int .i64 8)).run Tryd.prog w = .ok (.slice (some ⟨w.heap.size, 0, none⟩) 0 8) (w.alloc (.cells #[.int .u8 0, .int .u8 0, .int .u8 0, .int .u8 0, .int .u8 0, .int .u8 0, .int .u8 0, .int .u8 0] 5)) := fun _ => by kernel_rfl
  obtain ⟨i0, hi, hz0, hz1, hz2⟩ := info_parts info_u8
  have HW := Lib.hid hW
  have HV := Lib.hid hv
  have HL := Lib.hid (Lib.uvarint_length64 hv)
  have hown0 : (w.alloc (.cells #[.int .u8 0, .int .u8 0, .int .u8 0, .int .u8 0, .int .u8 0, .int .u8 0, .int .u8 0, .int .u8 0] 5)).ownsRow w.heap.size 5 1 (.slice (some ⟨w.heap.size, 0, none⟩) 0 8) ([] : List UInt8).length (Lib.byteCells []) := World.ownsRow_made w _ 8 (Nat.le_refl _) (by unfold maxLen; omega) rfl
  have HO := Lib.hid hown0
  clear hW hv hown0
  go_enter Tryd.func83, Tryd.ntmps83
  go_wp2
  go_loopg [0, 5] v (fun kq v0 v5 wr => ∃ (u : Nat) (s : List UInt8), kq = u ∧ v0 = .int .u64 u ∧ Hid (wr.ownsRow w.heap.size 5 1 v5 s.length (Lib.byteCells s)) ∧ Hid (s ++ Lib.uvarint u = Lib.uvarint v) ∧ Hid (Below w.heap.size w wr) ∧ Hid (u < 18446744073709551616))
  case atStart => exact ⟨v, [], rfl, rfl, HO, Lib.hid (by simp), Lib.hid ((Below.refl _ w).alloc (Nat.le_refl _) _), HV⟩
  case round =>
    clear HO
    obtain ⟨_, s, rfl, rfl, HO, HS, HB, HU⟩ := hrel
    obtain ⟨d, hd⟩ : ∃ d, Hid (gk % 128 = d) := ⟨_, Lib.hid rfl⟩
    obtain ⟨q, hq⟩ : ∃ q, Hid (gk / 128 = q) := ⟨_, Lib.hid rfl⟩
    have q1 : bits .and .u64 (gk : Int) 127 = (d : Int) := by
      have := bits_and_u64_nat gk 127 HU.out (by decide)
      rw [and127, hd.out] at this; exact this
    have q2 : (gk : Int) / 128 = (q : Int) := by have := hq.out; omega
    have HLS := Lib.hid (show s.length + (Lib.uvarint gk).length ≤ 10 by
      have h1 := congrArg List.length HS.out
      rw [List.length_append] at h1
      have := HL.out; omega)
    have hp := Lib.uvarint_pos gk
    by_cases h : gk < 128
    · have hz : q = 0 := by have := hq.out; omega
      subst hz
      have hdu : d = gk := by have := hd.out; omega
      have q3 : bits .or .u64 (d : Int) 0 = (d : Int) := by
        have := bits_or_u64_nat d 0 (by omega) (by decide)
        rw [Nat.or_zero] at this; exact this
      have q5 : (d : Int) % 256 = (d : Int) := by omega
      have HD := Lib.hid (show d < 256 by omega)
      have HS1 := Lib.hid (show s ++ [d.toUInt8] = Lib.uvarint v by rw [← HS.out, Lib.uvarint_small h, hdu])
      clear h hdu
      go_wp2_with (first
        | (at_builtin; go_loud (refine wpList_append_own _ rfl _ _ 29 rfl w.heap.size 5 i0 (.int .u8 0) 1 1 Tryd.underlying29 hi hz0 hz1 hz2 rfl (by decide) _ s.length (Lib.byteCells s) rfl (HO.out.alloc _) ⟨wr.heap.size, 0, none⟩ 1 1 [.int .u8 (d : Int)] rfl rfl ?c1 ?c2 ?c3 ?c4 ?c5 ?_; (case c1 => exact cell_one_new _ _ _); (case c2 => intro u hu; simp at hu; subst hu; rfl); (case c3 => have := HLS.out; unfold maxLen; omega); (case c4 => have := HLS.out; omega); (case c5 => have := HB.out.size; simp; omega); intro v' w1 hown' hgrow _; have HB1 := Lib.hid (Below.grown (HB.out.alloc HB.out.size _) hgrow (by have := HB.out.size; simp; omega) (fun k hk => (HO.out.lt k hk).1)); rw [← Lib.byteCells_snoc s HD.out] at hown'; have HO1 := Lib.hid hown'; clear hown' hgrow; obtain ⟨g, cap, rfl, hgg⟩ : ∃ g cap, v' = .slice (some ⟨g, 0, none⟩) (Lib.uvarint v).length cap ∧ Hid (w.heap.size ≤ g ∧ At w1 ⟨g, 0, none⟩ (Lib.uvarint v)) := row_out HO1.out HS1.out))
        | (go_at_call 102; refine (HW.out ⟨g, 0, none⟩ cap w1 HB1.out hgg.out.1 hgg.out.2).mono ?_; rintro e_ w2 ⟨rfl, hQ⟩; have HQ := Lib.hid hQ; clear hQ))
      go_ret
      exact ⟨rfl, HQ.out⟩
    · have hqp : ((q : Int) == 0) = false := beq_eq_false_iff_ne.mpr (by have := hq.out; omega)
      have hqp2 : ((q : Int) != 0) = true := by rw [bne, hqp]; rfl
      have hdl : d < 128 := by have := hd.out; omega
      obtain ⟨x, hx⟩ : ∃ x, Hid (d + 128 = x) := ⟨_, Lib.hid rfl⟩
      have q3 : bits .or .u64 (d : Int) 128 = (x : Int) := by
        have := bits_or_u64_nat d 128 (by omega) (by decide)
        rw [or128 d hdl, hx.out] at this; exact this
      have q5 : (x : Int) % 256 = (x : Int) := by have := hx.out; omega
      have HD := Lib.hid (show x < 256 by have := hx.out; omega)
      have HS1 := Lib.hid (show (s ++ [x.toUInt8]) ++ Lib.uvarint q = Lib.uvarint v by
        rw [← HS.out, Lib.uvarint_big (x := gk) (by omega), ← hq.out, ← hx.out, ← hd.out, List.append_assoc]; rfl)
      have HQ := Lib.hid (show q < gk ∧ q < 18446744073709551616 by have := hq.out; have := HU.out; omega)
      clear h hdl hqp
      go_wp2_with (at_builtin; go_loud (refine wpList_append_own _ rfl _ _ 29 rfl w.heap.size 5 i0 (.int .u8 0) 1 1 Tryd.underlying29 hi hz0 hz1 hz2 rfl (by decide) _ s.length (Lib.byteCells s) rfl (HO.out.alloc _) ⟨wr.heap.size, 0, none⟩ 1 1 [.int .u8 (x : Int)] rfl rfl ?c1 ?c2 ?c3 ?c4 ?c5 ?_; (case c1 => exact cell_one_new _ _ _); (case c2 => intro u hu; simp at hu; subst hu; rfl); (case c3 => have := HLS.out; unfold maxLen; omega); (case c4 => have := HLS.out; omega); (case c5 => have := HB.out.size; simp; omega); intro v' w1 hown' hgrow _; have HB1 := Lib.hid (Below.grown (HB.out.alloc HB.out.size _) hgrow (by have := HB.out.size; simp; omega) (fun k hk => (HO.out.lt k hk).1)); rw [← Lib.byteCells_snoc s HD.out] at hown'; have HO1 := Lib.hid hown'; clear hown' hgrow))
      go_roundg q
      case measure => exact HQ.out.1
      case rel => exact ⟨q, s ++ [x.toUInt8], rfl, rfl, Lib.hid (by rw [List.length_append]; exact HO1.out), HS1, HB1, Lib.hid HQ.out.2⟩
theorem encVar_any (B b v : Nat) (l : List UInt8) (w : World) (h : Bf B b l w) (hv : v < 18446744073709551616) (hlim : l.length + 10 ≤ 140737488355328) :
    Calls Tryd.prog 83 #[.int .u64 v, bfI b] w fun e w' => e = .returned .nilIface ∧ Bf B b (l ++ Lib.uvarint v) w' ∧ Below B w w' ∧ Lib.OthersKept 5 (some b) w w' :=
  encVar_abs b v w hv _ fun a c w1 hb ha hat => (wrU_any B b l (Lib.uvarint v) a (Lib.uvarint v).length c w1 (h.old hb) rfl (by have := h.lt; omega) hat (by have := Lib.uvarint_length64 hv; omega)).mono fun e w' ⟨a1, a2, a3, a4⟩ =>
    ⟨a1, a2, Below.lower hb h.size a3, fun k o hk hkb ho => a4 k o ((hb.block k (blk_lt hk)).trans hk) hkb ho⟩
/-- An int64 as a uint64. -/
def u64of (t : Int) : Nat := (t % 18446744073709551616).toNat
theorem u64of_lt (t : Int) : u64of t < 18446744073709551616 := by unfold u64of; omega
theorem u64of_nat (n : Nat) (h : n < 18446744073709551616) : u64of n = n := by unfold u64of; omega
theorem encVarI_abs (b : Nat) (t : Int) (w : World) (Q : World → Prop)
    (hW : Calls Tryd.prog 83 #[.int .u64 (u64of t), bfI b] w fun e w' => e = .returned .nilIface ∧ Q w') :
    Calls Tryd.prog 82 #[.int .i64 t, bfI b] w fun e w' => e = .returned .nilIface ∧ Q w' := by
  have e : (u64of t : Int) = t % 18446744073709551616 := by unfold u64of; omega
  rw [e] at hW
  have HW := Lib.hid hW
  clear e hW
  go_enter Tryd.func82, Tryd.ntmps82
  go_wp2_with (go_at_call 83; go_loud (refine HW.out.mono ?_; rintro e_ w2 ⟨rfl, hQ⟩; have HQ := Lib.hid hQ; clear hQ))
  go_ret
  exact ⟨rfl, HQ.out⟩
theorem encVarI_any (B b : Nat) (t : Int) (l : List UInt8) (w : World) (h : Bf B b l w) (hlim : l.length + 10 ≤ 140737488355328) :
    Calls Tryd.prog 82 #[.int .i64 t, bfI b] w fun e w' => e = .returned .nilIface ∧ Bf B b (l ++ Lib.uvarint (u64of t)) w' ∧ Below B w w' ∧ Lib.OthersKept 5 (some b) w w' :=
  encVarI_abs b t w _ (encVar_any B b (u64of t) l w h (u64of_lt t) hlim)
end Go.Proofs.YtgdbeiadlgkedaaDoor
