/- Contracts: numbers by sevens of bits that are read; errors. -/
import Derived.Test.YtgdbeiadlgkedaaDoorRd
import Derived.Test.YtgdbeiadlgkedaaDoorPl
import Derived.LoopTactic
import Derived.Deep.LoopGhost
import Derived.Laws.Bits64b
import Derived.Laws.BitsLemmas
namespace Go.Proofs.YtgdbeiadlgkedaaDoor
open Go.RowKit
set_option linter.unusedVariables false
set_option linter.unusedSimpArgs false

/-- An error with a text. -/
def Err (v : Value) (w : World) : Prop := ∃ (a : Addr) (s : ByteArray), v = .iface 182 (.pointer (some a)) ∧ w.cell? a = some (.string s) ∧ s.data.toList ≠ []
/-- The package's two errors lie below B. -/
structure Env (B : Nat) (pe pl : Addr) (w : World) : Prop where
  eof : w.cell? ⟨0, 0, none⟩ = some (.iface 182 (.pointer (some pe)))
  long : w.cell? ⟨3, 0, none⟩ = some (.iface 182 (.pointer (some pl)))
  te : ∃ s : ByteArray, w.cell? pe = some (.string s) ∧ s.data.toList ≠ []
  tl : ∃ s : ByteArray, w.cell? pl = some (.string s) ∧ s.data.toList ≠ []
  b0 : 0 < B
  b1 : 3 < B
  b2 : pe.block < B
  b3 : pl.block < B
theorem Env.kept {B : Nat} {pe pl : Addr} {w w' : World} (h : Env B pe pl w) (hk : ∀ k, k < B → w'.heap[k]? = w.heap[k]?) : Env B pe pl w' where
  eof := (World.cell?_of_block (a := ⟨0, 0, none⟩) (hk _ h.b0)).trans h.eof
  long := (World.cell?_of_block (a := ⟨3, 0, none⟩) (hk _ h.b1)).trans h.long
  te := by obtain ⟨s, hs, hn⟩ := h.te; exact ⟨s, (World.cell?_of_block (a := pe) (hk _ h.b2)).trans hs, hn⟩
  tl := by obtain ⟨s, hs, hn⟩ := h.tl; exact ⟨s, (World.cell?_of_block (a := pl) (hk _ h.b3)).trans hs, hn⟩
  b0 := h.b0
  b1 := h.b1
  b2 := h.b2
  b3 := h.b3
theorem Env.below {B : Nat} {pe pl : Addr} {w w' : World} (h : Env B pe pl w) (hb : Below B w w') : Env B pe pl w' := h.kept fun k hk => hb.block k hk
theorem Env.errE {B : Nat} {pe pl : Addr} {w : World} (h : Env B pe pl w) : Err (.iface 182 (.pointer (some pe))) w := by obtain ⟨s, hs, hn⟩ := h.te; exact ⟨pe, s, rfl, hs, hn⟩
theorem Env.errL {B : Nat} {pe pl : Addr} {w : World} (h : Env B pe pl w) : Err (.iface 182 (.pointer (some pl))) w := by obtain ⟨s, hs, hn⟩ := h.tl; exact ⟨pl, s, rfl, hs, hn⟩
theorem Two.belowB {r d B : Nat} {w w' : World} (h : Two r d w w') (hB : B ≤ w.heap.size) (hr : B ≤ r) (hd : B ≤ d) : Below B w w' :=
  ⟨h.os, h.tape, h.output, h.size, fun k hk => h.block k (by omega) (by omega) (by omega)⟩
theorem grown_below {r B : Nat} {w w' : World} (h : w.grownBy w' (some r)) (hB : B ≤ w.heap.size) (hr : B ≤ r) : Below B w w' :=
  ⟨h.os, h.tape, h.output, h.size, fun k hk => h.block k (by omega) (by intro e; cases e; omega)⟩
theorem grown_trans {r : Nat} {a b c : World} (h : a.grownBy b (some r)) (k : b.grownBy c (some r)) : a.grownBy c (some r) := Lib.grownBy_trans h k
theorem grown_refl {r : Nat} (a : World) : a.grownBy a (some r) := ⟨rfl, rfl, rfl, Nat.le_refl _, fun _ _ _ => rfl⟩
theorem grown_drewN {r : Nat} {a b : World} (h : a.grownBy b (some r)) (n : Nat) : a.grownBy (b.drewN n) (some r) := ⟨h.os, h.tape, h.output, h.size, h.block⟩
theorem grown_alloc {r : Nat} {a b : World} (h : a.grownBy b (some r)) (o : Obj) : a.grownBy (b.alloc o) (some r) := grown_trans h (World.grownBy_alloc b o _)

theorem u8_and127 (c : Nat) (h : c < 256) : bits .and .u8 (c : Int) 127 = ((c % 128 : Nat) : Int) := by
  have h1 := (bits_nat .u8 8 (by decide) wraps_u8 c 127 (by simpa using h) (by decide)).1
  have e : ((127 : Nat) : Int) = 127 := rfl
  rw [e] at h1
  rw [h1, show c &&& 127 = c % 128 from Nat.and_two_pow_sub_one_eq_mod c 7]
set_option maxRecDepth 100000 in
theorem u8_and128 (c : Nat) (h : c < 256) : bits .and .u8 (c : Int) 128 = if c < 128 then 0 else 128 := by
  have h1 := (bits_nat .u8 8 (by decide) wraps_u8 c 128 (by simpa using h) (by decide)).1
  have e : ((128 : Nat) : Int) = 128 := rfl
  rw [e] at h1
  have h2 : ∀ a : Fin 256, (a.val &&& 128) = if a.val < 128 then 0 else 128 := by decide
  rw [h1, h2 ⟨c, h⟩]
  split <;> rfl
theorem or_shl (a b k : Nat) (h : a < 2 ^ k) : a ||| b * 2 ^ k = a + b * 2 ^ k := by
  have := Nat.shiftLeft_add_eq_or_of_lt h b
  rw [Nat.shiftLeft_eq] at this
  rw [Nat.or_comm, ← this, Nat.add_comm]
theorem orv (z b s : Nat) (hz : z < 2 ^ s) (hs : s ≤ 63) (hb : b * 2 ^ s < 18446744073709551616) : bits .or .u64 (z : Int) (IntKind.u64.wrap ((b : Int) * 2 ^ s)) = ((z + b * 2 ^ s : Nat) : Int) := by
  have hz2 : z < 18446744073709551616 := Nat.lt_of_lt_of_le hz (Nat.le_trans (Nat.pow_le_pow_right (by decide) hs) (by decide))
  have e : IntKind.u64.wrap ((b : Int) * 2 ^ s) = ((b * 2 ^ s : Nat) : Int) := by
    have : ((b * 2 ^ s : Nat) : Int) = (b : Int) * 2 ^ s := by rw [Int.natCast_mul, Int.natCast_pow]; rfl
    rw [← this, IntKind.wrap_u64]; omega
  rw [e, bits_or_u64_nat z (b * 2 ^ s) hz2 hb, or_shl z b s hz]
theorem mul_pow_lt (b j : Nat) (hb : b < 128) (hj : j ≤ 8) : b * 2 ^ (7 * j) < 18446744073709551616 := by
  have h1 : 2 ^ (7 * j) ≤ 2 ^ 56 := Nat.pow_le_pow_right (by decide) (by omega)
  have h2 : b * 2 ^ (7 * j) ≤ 127 * 2 ^ 56 := Nat.mul_le_mul (by omega) h1
  have e : (2 : Nat) ^ 56 = 72057594037927936 := by decide
  omega
set_option maxHeartbeats 8000000 in
set_option maxRecDepth 100000 in
theorem decVar_any (B : Nat) (pe pl : Addr) (r g : Nat) (l : List UInt8) (i : Nat) (w : World) (h : Rd r g l i w) (he : Env B pe pl w) (hBr : B ≤ r) (R : Option (Nat × Nat)) (hR : vrd 0 0 (l.drop i) = R) :
    Calls Tryd.prog 61 #[rdI r] w fun e w' => w.grownBy w' (some r) ∧
      ((∃ v k, R = some (v, k) ∧ e = .returned (.tuple #[.int .u64 (v : Nat), .nilIface]) ∧ Rd r g l (i + k) w') ∨ (R = none ∧ ∃ ev i', e = .returned (.tuple #[.int .u64 0, ev]) ∧ Err ev w' ∧ Rd r g l i' w')) := by
  have hrw := h.lt
  have hgw := h.ltg
  have H := Lib.hid (h.alloc (.cells #[.int .u8 0] 161))
  have HE := Lib.hid he
  have HL := Lib.hid h.len
  have HG := Lib.hid (grown_alloc (grown_refl (r := r) w) (.cells #[.int .u8 0] 161))
  have HR := Lib.hid hR
  clear h he hR
  go_enter Tryd.func61, Tryd.ntmps61
  go_wp2
  go_loopg [4, 5] 11 (fun kq v4 v5 wr => ∃ (j z s : Nat) (x : UInt8), kq + j = 11 ∧ v4 = .int .u64 z ∧ v5 = .int .u64 s ∧ Hid (s = 7 * j) ∧ Hid (Rd r g l (i + j) wr) ∧ Hid (wr.heap[w.heap.size]? = some (.cells #[.int .u8 x.toNat] 161 (0, 0))) ∧ Hid (w.grownBy wr (some r)) ∧ Hid ((j ≤ 9 ∧ vrd j z (l.drop (i + j)) = R ∧ z < 2 ^ (7 * j)) ∨ (j = 10 ∧ R = none)))
  case atStart => exact ⟨0, 0, 0, 0, rfl, rfl, rfl, Lib.hid rfl, H, Lib.hid (heap_alloc_new w _), HG, Lib.hid (.inl ⟨by omega, by simpa using HR.out, by decide⟩)⟩
  case round =>
    clear H HG HR
    obtain ⟨j, z, s, x, hkj, rfl, rfl, HS, H, HD, HG, HV⟩ := hrel
    have hile := H.out.le
    have HEw := Lib.hid (HE.out.below (grown_below HG.out (by omega) hBr))
    by_cases hend : i + j = l.length
    · have H' := Lib.hid (show Rd r g l l.length wr from hend ▸ H.out)
      have hnone : R = none := by
        rcases HV.out with ⟨_, hv, _⟩ | ⟨_, hn⟩
        · rw [hend, List.drop_length] at hv; rw [← hv]; rfl
        · exact hn
      have HN := Lib.hid hnone
      clear hend hnone hile hkj
      go_wp2_with (go_at_call 99; go_loud (refine (readU_end r g l _ _ _ (.iface 182 (.pointer (some pe))) _ H'.out HEw.out.eof).mono ?_; rintro e_ w1 ⟨rfl, q1, hq⟩; have HQ := Lib.hid hq; clear hq))
      go_ret2
      have hq := HQ.out
      subst hq
      exact ⟨grown_drewN HG.out _, .inr ⟨HN.out, _, _, rfl, by obtain ⟨a, t, e1, e2, e3⟩ := HEw.out.errE; exact ⟨a, t, e1, e2, e3⟩, H'.out.drewN q1⟩⟩
    · obtain ⟨c, rest, hcr⟩ : ∃ c rest, l.drop (i + j) = c :: rest := ⟨_, _, List.drop_eq_getElem_cons (by omega)⟩
      have hC := readU_some r g l (i + j) w.heap.size 1 1 1 _ _ wr H.out (by omega) HD.out (by omega) (by omega) (by omega) (by simp)
      have hla : laidAt #[.int .u8 x.toNat] 0 ((l.drop (i + j)).take 1) = #[.int .u8 c.toNat] := by rw [hcr]; rfl
      rw [hla] at hC
      have HC := Lib.hid hC
      have HCR := Lib.hid hcr
      obtain ⟨n, hn⟩ : ∃ n, n = c.toNat := ⟨_, rfl⟩
      rw [← hn] at HC
      have hn256 : n < 256 := by rw [hn]; exact c.toNat_lt
      obtain ⟨b, hb⟩ : ∃ b, Hid (n % 128 = b) := ⟨_, Lib.hid rfl⟩
      have qa : bits .and .u8 (n : Int) 127 = (b : Int) := by rw [u8_and127 n hn256, hb.out]
      have hb1 : b < 128 := by have := hb.out; omega
      have hsj := HS.out
      have HN := Lib.hid hn
      have HLT := Lib.hid (show i + j < l.length by omega)
      clear hC hla hcr hend hn hile
      by_cases h8 : j ≤ 8
      · have hs63 : (s : Int) ≤ 56 := by omega
        obtain ⟨hv, hz⟩ : vrd j z (c :: rest) = R ∧ z < 2 ^ (7 * j) := by
          rcases HV.out with ⟨_, hv, hz⟩ | ⟨hj, _⟩
          · rw [HCR.out] at hv; exact ⟨hv, hz⟩
          · omega
        obtain ⟨V, hV⟩ : ∃ V, Hid (z + b * 2 ^ s = V) := ⟨_, Lib.hid rfl⟩
        have qv : bits .or .u64 (z : Int) (IntKind.u64.wrap ((b : Int) * 2 ^ s)) = (V : Int) := by
          rw [orv z b s (by rw [hsj]; exact hz) (by omega) (by rw [hsj]; exact mul_pow_lt b j hb1 h8), hV.out]
        by_cases h128 : n < 128
        · have qc : bits .and .u8 (n : Int) 128 = 0 := by rw [u8_and128 n hn256, if_pos h128]
          have HRS := Lib.hid (show R = some (V, j + 1) by
            rw [← hv, vrd_end (by have := HN.out; omega) (by rw [← HN.out]; exact h128), ← hV.out, hsj, ← HN.out]
            have : b = n := by have := hb.out; omega
            rw [this])
          clear h128 hn256 hv hz hsj hkj h8
          go_wp2_with (go_at_call 99; refine HC.out.mono ?_; rintro e_ w1 ⟨rfl, h1, h2, h3⟩; have x0 : w1.cell? ⟨w.heap.size, 0, none⟩ = some (.int .u8 (n : Int)) := (blk_cell h2 0).trans rfl; have H1 := Lib.hid (And.intro h1 (And.intro h2 (Two.grown HG.out h3 (Nat.le_refl _)))); clear h1 h2 h3)
          go_ret2
          exact ⟨H1.out.2.2, .inl ⟨V, j + 1, HRS.out, rfl, H1.out.1⟩⟩
        · have qc : bits .and .u8 (n : Int) 128 = 128 := by rw [u8_and128 n hn256, if_neg h128]
          have HNX := Lib.hid (show vrd (j + 1) V rest = R ∧ V < 2 ^ (7 * (j + 1)) ∧ gk - 1 + (j + 1) = 11 ∧ gk - 1 < gk ∧ s + 7 = 7 * (j + 1) ∧ j + 1 ≤ 9 by
            refine ⟨?_, ?_, by omega, by omega, by omega, by omega⟩
            · rw [← hv, vrd_on (by have := HN.out; omega) (by rw [← HN.out]; exact h128), ← hV.out, hsj, ← HN.out, hb.out]
            · rw [← hV.out, hsj, pow7]
              have : b * 2 ^ (7 * j) ≤ 127 * 2 ^ (7 * j) := Nat.mul_le_mul_right _ (by omega)
              omega)
          have HDR := Lib.hid (show l.drop (i + (j + 1)) = rest by
            have := congrArg (List.drop 1) HCR.out
            rw [List.drop_drop] at this
            exact this)
          clear h128 hn256 hv hz hsj hkj h8
          go_wp2_with (go_at_call 99; refine HC.out.mono ?_; rintro e_ w1 ⟨rfl, h1, h2, h3⟩; have x0 : w1.cell? ⟨w.heap.size, 0, none⟩ = some (.int .u8 (n : Int)) := (blk_cell h2 0).trans rfl; have H1 := Lib.hid (And.intro h1 (And.intro h2 (Two.grown HG.out h3 (Nat.le_refl _)))); clear h1 h2 h3)
          go_roundg (gk - 1)
          case measure => exact HNX.out.2.2.2.1
          case rel => exact ⟨j + 1, V, s + 7, c, HNX.out.2.2.1, rfl, by go_num, Lib.hid HNX.out.2.2.2.2.1, Lib.hid H1.out.1, Lib.hid (by rw [← HN.out]; exact H1.out.2.1), Lib.hid H1.out.2.2, Lib.hid (.inl ⟨HNX.out.2.2.2.2.2, by rw [HDR.out]; exact HNX.out.1, HNX.out.2.1⟩)⟩
      · by_cases h10 : j = 10
        · have hs70 : 70 ≤ (s : Int) := by omega
          have hs71 : (s : Int) ≤ 70 := by omega
          have HRN := Lib.hid (show R = none by
            rcases HV.out with ⟨hj, _⟩ | ⟨_, hn⟩
            · omega
            · exact hn)
          clear hsj h8 h10 hkj hn256
          go_wp2_with (go_at_call 99; refine HC.out.mono ?_; rintro e_ w1 ⟨rfl, h1, h2, h3⟩; have x0 : w1.cell? ⟨w.heap.size, 0, none⟩ = some (.int .u8 (n : Int)) := (blk_cell h2 0).trans rfl; have H1 := Lib.hid (And.intro h1 (And.intro h2 (Two.grown HG.out h3 (Nat.le_refl _)))); clear h1 h2 h3)
          have HE1 := Lib.hid (HE.out.below (grown_below H1.out.2.2 (by omega) hBr))
          have x1 := HE1.out.long
          go_quiet (fail)
          go_wp2
          go_ret2
          exact ⟨grown_drewN H1.out.2.2 _, .inr ⟨HRN.out, _, _, rfl, by obtain ⟨a, t, e1, e2, e3⟩ := HE1.out.errL; exact ⟨a, t, e1, e2, e3⟩, H1.out.1.drewN _⟩⟩
        · obtain ⟨hj9, hv, hz⟩ : j = 9 ∧ vrd j z (c :: rest) = R ∧ z < 2 ^ (7 * j) := by
            rcases HV.out with ⟨hj, hv, hz⟩ | ⟨hj, _⟩
            · rw [HCR.out] at hv; exact ⟨by omega, hv, hz⟩
            · omega
          have hs0 : 63 ≤ (s : Int) := by omega
          have hs1 : (s : Int) ≤ 63 := by omega
          have q63 : ((s : Int) == 63) = true := by rw [beq_iff_eq]; omega
          have es : s = 63 := by omega
          by_cases hb2 : 1 < b
          · have HRN := Lib.hid (show R = none by
              rw [← hv]; exact vrd_bad (.inr ⟨hj9, by have := HN.out; have := hb.out; omega⟩))
            have hbb : 1 < (b : Int) := by omega
            clear hsj h8 h10 hkj hn256 hj9 hv hz es hb2
            go_wp2_with (go_at_call 99; refine HC.out.mono ?_; rintro e_ w1 ⟨rfl, h1, h2, h3⟩; have x0 : w1.cell? ⟨w.heap.size, 0, none⟩ = some (.int .u8 (n : Int)) := (blk_cell h2 0).trans rfl; have H1 := Lib.hid (And.intro h1 (And.intro h2 (Two.grown HG.out h3 (Nat.le_refl _)))); clear h1 h2 h3)
            have HE1 := Lib.hid (HE.out.below (grown_below H1.out.2.2 (by omega) hBr))
            have x1 := HE1.out.long
            go_quiet (fail)
            go_wp2
            go_ret2
            exact ⟨grown_drewN H1.out.2.2 _, .inr ⟨HRN.out, _, _, rfl, by obtain ⟨a, t, e1, e2, e3⟩ := HE1.out.errL; exact ⟨a, t, e1, e2, e3⟩, H1.out.1.drewN _⟩⟩
          · have hbb : (b : Int) ≤ 1 := by omega
            obtain ⟨V, hV⟩ : ∃ V, Hid (z + b * 2 ^ s = V) := ⟨_, Lib.hid rfl⟩
            have qv : bits .or .u64 (z : Int) (IntKind.u64.wrap ((b : Int) * 2 ^ s)) = (V : Int) := by
              rw [orv z b s (by rw [hsj]; exact hz) (by omega) (by
                rw [es]
                have : b * 2 ^ 63 ≤ 1 * 2 ^ 63 := Nat.mul_le_mul_right _ (by omega)
                have e : (2 : Nat) ^ 63 = 9223372036854775808 := by decide
                omega), hV.out]
            by_cases h128 : n < 128
            · have qc : bits .and .u8 (n : Int) 128 = 0 := by rw [u8_and128 n hn256, if_pos h128]
              have HRS := Lib.hid (show R = some (V, j + 1) by
                rw [← hv, vrd_end (by have := HN.out; have := hb.out; omega) (by rw [← HN.out]; exact h128), ← hV.out, hsj, ← HN.out]
                have : b = n := by have := hb.out; omega
                rw [this])
              clear h128 hn256 hv hz hsj hkj h8 h10 hj9 es hb2
              go_wp2_with (go_at_call 99; refine HC.out.mono ?_; rintro e_ w1 ⟨rfl, h1, h2, h3⟩; have x0 : w1.cell? ⟨w.heap.size, 0, none⟩ = some (.int .u8 (n : Int)) := (blk_cell h2 0).trans rfl; have H1 := Lib.hid (And.intro h1 (And.intro h2 (Two.grown HG.out h3 (Nat.le_refl _)))); clear h1 h2 h3)
              go_ret2
              exact ⟨H1.out.2.2, .inl ⟨V, j + 1, HRS.out, rfl, H1.out.1⟩⟩
            · have qc : bits .and .u8 (n : Int) 128 = 128 := by rw [u8_and128 n hn256, if_neg h128]
              have HNX := Lib.hid (show R = none ∧ gk - 1 + (j + 1) = 11 ∧ gk - 1 < gk ∧ s + 7 = 7 * (j + 1) ∧ j + 1 = 10 by
                refine ⟨?_, by omega, by omega, by omega, by omega⟩
                rw [← hv]; exact vrd_bad (.inr ⟨hj9, by have := HN.out; omega⟩))
              clear h128 hn256 hv hz hsj hkj h8 h10 hj9 es hb2
              go_wp2_with (go_at_call 99; refine HC.out.mono ?_; rintro e_ w1 ⟨rfl, h1, h2, h3⟩; have x0 : w1.cell? ⟨w.heap.size, 0, none⟩ = some (.int .u8 (n : Int)) := (blk_cell h2 0).trans rfl; have H1 := Lib.hid (And.intro h1 (And.intro h2 (Two.grown HG.out h3 (Nat.le_refl _)))); clear h1 h2 h3)
              go_roundg (gk - 1)
              case measure => exact HNX.out.2.2.1
              case rel => exact ⟨j + 1, V, s + 7, c, HNX.out.2.1, rfl, by go_num, Lib.hid HNX.out.2.2.2.1, Lib.hid H1.out.1, Lib.hid (by rw [← HN.out]; exact H1.out.2.1), Lib.hid H1.out.2.2, Lib.hid (.inr ⟨HNX.out.2.2.2.2, HNX.out.1⟩)⟩
end Go.Proofs.YtgdbeiadlgkedaaDoor
