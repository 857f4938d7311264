/- Contracts and plain laws, several texts in one. -/
import Derived.Test.YtgdbeiadlgkedaaDoorMRowBack1
import Derived.Lib.Varint
import Derived.Shelf.LaysM
import Derived.Shelf.Bytes.Len
import Derived.Shelf.Bytes.TryGrow
import Derived.Shelf.Bytes.GrowSliceCatch
import Derived.Shelf.Bytes.GrowSlice
import Derived.Shelf.Bytes.String
import Derived.Ground.MnProg
import Derived.Shelf.Bin.BEUint32
import Derived.Shelf.Bin.BEPutUint32
import Derived.Shelf.Bin.BEUint64
import Derived.Shelf.Bin.BEPutUint64
import Derived.Shelf.Bytes.GrowRow0Own
import Derived.Shelf.Bytes.GrowRowOwn
import Derived.Shelf.Bytes.GrowNilOwn
import Derived.Shelf.Bytes.GrowOwn
import Derived.Shelf.Bytes.WriteAny
import Derived.Test.YtgdbeiadlgkedaaDoorProg
/- Plain: the packed bits of a row's nil fields. -/
set_option linter.unusedVariables false
set_option linter.unusedSimpArgs false
namespace Go.Proofs.YtgdbeiadlgkedaaDoor
open Go.RowKit
def isN (l : List Bool) (i : Nat) : Bool := l.getD i false
/-- Block j's bits of the fields ahead of i. -/
def pkU (l : List Bool) (j : Nat) : Nat → Nat
  | 0 => 0
  | i + 1 => if i / 8 = j ∧ isN l i = true then pkU l j i + 2 ^ (i % 8) else pkU l j i
/-- The last block with a nil field, of those ahead of i. -/
def lastB (l : List Bool) : Nat → Int
  | 0 => -1
  | i + 1 => if isN l i = true then ((i / 8 : Nat) : Int) else lastB l i
theorem isN_out {l : List Bool} {i : Nat} (h : l.length ≤ i) : isN l i = false := by unfold isN; rw [List.getD_eq_getElem?_getD, List.getElem?_eq_none h]; rfl
theorem pkU_low (l : List Bool) (j : Nat) : ∀ i, i ≤ 8 * j → pkU l j i = 0
  | 0, _ => rfl
  | i + 1, h => by rw [pkU, if_neg (by omega), pkU_low l j i (by omega)]
theorem pkU_lt (l : List Bool) (j : Nat) : ∀ i, 8 * j ≤ i → i ≤ 8 * j + 8 → pkU l j i < 2 ^ (i - 8 * j)
  | 0, h, _ => by rw [pkU]; exact Nat.pos_of_ne_zero (by simp)
  | i + 1, h, h2 => by
    by_cases e : i + 1 = 8 * j
    · rw [pkU_low l j (i + 1) (by omega)]; exact Nat.pos_of_ne_zero (by simp)
    · have ih := pkU_lt l j i (by omega) (by omega)
      have e2 : i + 1 - 8 * j = (i - 8 * j) + 1 := by omega
      have e3 : i % 8 = i - 8 * j := by omega
      rw [e2, Nat.pow_succ, pkU]
      split
      · rw [e3]; omega
      · omega
theorem pkU_step (l : List Bool) (j : Nat) {i : Nat} (h : 8 * j + 8 ≤ i) : pkU l j (i + 1) = pkU l j i := by rw [pkU, if_neg (by omega)]
theorem pkU_high (l : List Bool) (j : Nat) : ∀ i, 8 * j + 8 ≤ i → pkU l j i = pkU l j (8 * j + 8) := by
  intro i h
  induction i with
  | zero => omega
  | succ i ih =>
    by_cases e : i + 1 = 8 * j + 8
    · rw [e]
    · rw [pkU_step l j (by omega), ih (by omega)]
theorem pkU_end (l : List Bool) (j : Nat) : ∀ i, l.length ≤ i → pkU l j i = pkU l j l.length := by
  intro i h
  induction i with
  | zero =>
    have : l.length = 0 := by omega
    rw [this]
  | succ i ih =>
    by_cases e : i + 1 = l.length
    · rw [e]
    · rw [pkU, isN_out (by omega), if_neg (by simp), ih (by omega)]
theorem pkU_256 (l : List Bool) (j i : Nat) : pkU l j i < 256 := by
  rcases Nat.lt_or_ge i (8 * j) with h | h
  · rw [pkU_low l j i (by omega)]; omega
  · rcases Nat.lt_or_ge i (8 * j + 8) with h2 | h2
    · have := pkU_lt l j i h (by omega)
      have h3 : 2 ^ (i - 8 * j) ≤ 2 ^ 8 := Nat.pow_le_pow_right (by decide) (by omega)
      omega
    · rw [pkU_high l j i h2]
      have := pkU_lt l j (8 * j + 8) (by omega) (by omega)
      rw [show 8 * j + 8 - 8 * j = 8 by omega] at this
      omega
theorem lastB_bd (l : List Bool) : ∀ i, -1 ≤ lastB l i ∧ lastB l i * 8 < (i : Int)
  | 0 => by unfold lastB; omega
  | i + 1 => by
    have := lastB_bd l i
    unfold lastB
    split <;> omega
theorem lastB_end (l : List Bool) : ∀ i, l.length ≤ i → lastB l i = lastB l l.length := by
  intro i h
  induction i with
  | zero =>
    have : l.length = 0 := by omega
    rw [this]
  | succ i ih =>
    by_cases e : i + 1 = l.length
    · rw [e]
    · rw [lastB, isN_out (by omega), if_neg (by simp), ih (by omega)]
theorem or_bit : ∀ (k : Fin 8) (x : Fin 256), (x : Nat) < 2 ^ (k : Nat) → Go.bits .or .u8 ((x : Nat) : Int) ((2 ^ (k : Nat) : Nat) : Int) = (((x : Nat) + 2 ^ (k : Nat) : Nat) : Int) := by decide +kernel
/-- The bytes of the nil fields. -/
def rbytes (l : List Bool) : List Nat := (List.range (lastB l l.length + 1).toNat).map fun j => pkU l j l.length
end Go.Proofs.YtgdbeiadlgkedaaDoor

/- Plain: a row's head, as the printed function tells it. -/
set_option linter.unusedVariables false
set_option linter.unusedSimpArgs false
namespace Go.Proofs.YtgdbeiadlgkedaaDoor
open Go.RowKit PFnRowHeader Go.Proofs.YtgdbeiadlgkedaaDoorW.PrintWords Go.Proofs.YtgdbeiadlgkedaaDoorW.PrintLast Go.Proofs.YtgdbeiadlgkedaaDoorW.PrintMore
theorem or128b : ∀ d : Fin 256, Go.bits .or .u8 ((d : Nat) : Int) 128 = (((d : Nat) % 128 + 128 : Nat) : Int) := by decide +kernel
theorem sn_one (m : Nat) : strOfNums [((m : Nat) : Int)] = ⟨#[m.toUInt8]⟩ := by simp [strOfNums]
theorem le1 (s : ByteArray) (x : UInt8) (h : s.size + 1 ≤ 1000) : s.size + (⟨#[x]⟩ : ByteArray).size ≤ 9223372036854775807 := Nat.le_trans h (by decide)
theorem varint_l0 : ∀ (n v : Nat) (s : ByteArray), v ≤ n → s.size + (Lib.uvarint v).length ≤ 1000 → ∃ k, spec_CodVarint.l0 k (v : Int) s = some (s ++ ⟨(Lib.uvarint v).toArray⟩) := by
  intro n
  induction n with
  | zero =>
    intro v s hv hs
    obtain rfl : v = 0 := by omega
    refine ⟨1, ?_⟩
    rw [Lib.uvarint_small (by decide)] at hs ⊢
    rw [spec_CodVarint.l0, if_neg (by omega)]
    simp only [Option.bind_some]
    rw [show (((0 : Nat) : Int) % 256) = ((0 : Nat) : Int) by decide, sn_one]
    rw [if_pos (le1 s _ (show s.size + 1 ≤ 1000 from hs))]
  | succ n ih =>
    intro v s hv hs
    by_cases h : v < 128
    · refine ⟨1, ?_⟩
      rw [Lib.uvarint_small h] at hs ⊢
      rw [spec_CodVarint.l0, if_neg (by omega)]
      simp only [Option.bind_some]
      rw [show ((v : Int) % 256) = ((v : Nat) : Int) by omega, sn_one]
      rw [if_pos (le1 s _ (show s.size + 1 ≤ 1000 from hs))]
    · rw [Lib.uvarint_big (by omega)] at hs ⊢
      obtain ⟨k, hk⟩ := ih (v / 128) (s ++ ⟨#[(v % 128 + 128).toUInt8]⟩) (by omega) (by rw [List.length_cons] at hs; rw [ByteArray.size_append]; show s.size + 1 + _ ≤ 1000; omega)
      refine ⟨k + 1, ?_⟩
      rw [spec_CodVarint.l0, if_pos (by omega)]
      simp only [Option.bind_some]
      have e : ((v : Int) % 256) = (((⟨v % 256, by omega⟩ : Fin 256) : Nat) : Int) := by simp
      rw [e, or128b, show ((⟨v % 256, by omega⟩ : Fin 256) : Nat) % 128 + 128 = v % 128 + 128 by simp only; omega, sn_one]
      rw [if_pos (le1 s _ (show s.size + 1 ≤ 1000 by rw [List.length_cons] at hs; omega)), show ((v : Int) / 128) = ((v / 128 : Nat) : Int) by omega, hk]
      congr 1
      apply ByteArray.ext
      simp
theorem varint_some (v : Nat) (hv : v < 18446744073709551616) : ∃ k, spec_CodVarint.f k (v : Int) = some ⟨(Lib.uvarint v).toArray⟩ := by
  obtain ⟨k, hk⟩ := varint_l0 v v ⟨#[]⟩ (Nat.le_refl _) (by have := Lib.uvarint_length64 hv; simp [ByteArray.size]; omega)
  refine ⟨k, ?_⟩
  rw [spec_CodVarint.f, hk]
  congr 1
theorem varint_up (y : Int) (r : ByteArray) : ∀ d k, spec_CodVarint.f k y = some r → spec_CodVarint.f (k + d) y = some r
  | 0, _, h => h
  | d + 1, k, h => spec_CodVarint.mono y (k + d) r (varint_up y r d k h)
def u64n (t : Int) : Nat := (t % 18446744073709551616).toNat
theorem u64n_lt (t : Int) : u64n t < 18446744073709551616 := by unfold u64n; omega
theorem u64n_wrap (t : Int) : IntKind.u64.wrap t = (u64n t : Int) := by
  unfold u64n
  simp [IntKind.wrap, IntKind.bits, IntKind.signed]
  omega
theorem lastB_ge (l : List Bool) (i : Nat) (hi : isN l i = true) : ∀ N, i < N → ((i / 8 : Nat) : Int) ≤ lastB l N := by
  intro N h
  induction N with
  | zero => omega
  | succ N ih =>
    unfold lastB
    split
    · omega
    · rename_i hn
      have : i ≠ N := fun e => hn (e ▸ hi)
      exact ih (by omega)
theorem rd_map (m : Nat) (g : Nat → Int) (j : Nat) (hj : j < m) : rd ((List.range m).map g) (j : Int) = g j := by
  unfold rd
  simp [hj]
theorem set_map (m : Nat) (g h : Nat → Int) (j : Nat) (hj : j < m) (he : ∀ q, q ≠ j → g q = h q) : ((List.range m).map g).set j (h j) = (List.range m).map h := by
  apply List.ext_getElem?
  intro q
  rw [List.getElem?_set]
  by_cases e : j = q
  · subst e; simp [hj]
  · rw [if_neg e]
    by_cases hq : q < m
    · simp [hq, he q (fun e' => e e'.symm)]
    · rw [List.getElem?_eq_none (by simp; omega), List.getElem?_eq_none (by simp; omega)]

def rhead (n : Nat) (l : List Bool) : List UInt8 := Lib.uvarint n ++ (Lib.uvarint (rbytes l).length ++ (rbytes l).map Nat.toUInt8)
theorem rbytes_len (l : List Bool) (hl : l.length ≤ 200) : (rbytes l).length ≤ 200 := by
  have := lastB_bd l l.length
  unfold rbytes
  rw [List.length_map, List.length_range]
  omega
theorem sn_list (xs : List Nat) : strOfNums (xs.map fun x : Nat => ((x : Nat) : Int)) = ⟨(xs.map Nat.toUInt8).toArray⟩ := by
  unfold strOfNums
  rw [List.map_map]
  congr 2
theorem shl_one : ∀ k : Fin 8, shl .u8 1 ((k : Nat) : Int) = ((2 ^ (k : Nat) : Nat) : Int) := by decide +kernel
theorem or_step (l : List Bool) (i : Nat) : Go.bits .or .u8 ((pkU l (i / 8) i : Nat) : Int) (shl .u8 1 ((i % 8 : Nat) : Int)) = ((pkU l (i / 8) i + 2 ^ (i % 8) : Nat) : Int) := by
  have h1 := pkU_lt l (i / 8) i (by omega) (by omega)
  rw [show i - 8 * (i / 8) = i % 8 by omega] at h1
  have h2 := or_bit ⟨i % 8, by omega⟩ ⟨pkU l (i / 8) i, pkU_256 l _ _⟩ h1
  have h3 := shl_one ⟨i % 8, by omega⟩
  simp only at h2 h3
  rw [h3, h2]
theorem head_l1 (n : Nat) (hn : n ≤ 10000) (l : List Bool) (hl : l.length ≤ 200) (m : Nat) (hm : m = (lastB l l.length + 1).toNat) : ∀ d i : Nat, d = l.length - i → i ≤ l.length → ∃ k, spec_CodRowHead.l1 k (n : Int) ((List.range m).map fun j => ((pkU l j i : Nat) : Int)) l (l.length : Int) (i : Int) = some ⟨(rhead n l).toArray⟩ := by
  intro d
  induction d with
  | zero =>
    intro i hd hi
    obtain rfl : i = l.length := by omega
    have er : ((List.range m).map fun j => ((pkU l j l.length : Nat) : Int)) = (rbytes l).map fun x : Nat => ((x : Nat) : Int) := by
      unfold rbytes; rw [List.map_map, hm]; rfl
    rw [er]
    have hr := rbytes_len l hl
    obtain ⟨k1, h1⟩ := varint_some n (by omega)
    obtain ⟨k2, h2⟩ := varint_some (rbytes l).length (by omega)
    refine ⟨k1 + k2 + 1, ?_⟩
    have v1 := varint_up _ _ k2 k1 h1
    have v2 := varint_up _ _ k1 k2 h2
    rw [show k2 + k1 = k1 + k2 by omega] at v2
    rw [spec_CodRowHead.l1, if_neg (by omega), u64n_wrap, u64n_wrap, List.length_map]
    rw [show u64n (n : Int) = n by unfold u64n; omega, show u64n ((rbytes l).length : Int) = (rbytes l).length by unfold u64n; omega, v1, v2]
    simp only [Option.bind_some]
    have l1 := Lib.uvarint_length64 (x := n) (by omega)
    have l2 := Lib.uvarint_length64 (x := (rbytes l).length) (by omega)
    rw [sn_list]
    have s1 : (⟨(Lib.uvarint n).toArray⟩ : ByteArray).size = (Lib.uvarint n).length := by simp [ByteArray.size]
    have s2 : (⟨(Lib.uvarint (rbytes l).length).toArray⟩ : ByteArray).size = (Lib.uvarint (rbytes l).length).length := by simp [ByteArray.size]
    have s3 : (⟨((rbytes l).map Nat.toUInt8).toArray⟩ : ByteArray).size = (rbytes l).length := by simp [ByteArray.size]
    rw [if_pos (by rw [s1, s2]; omega), if_pos (by rw [ByteArray.size_append, s1, s2, s3]; omega)]
    congr 1
    apply ByteArray.ext
    simp [rhead]
  | succ d ih =>
    intro i hd hi
    obtain ⟨k, hk⟩ := ih (i + 1) (by omega) (by omega)
    refine ⟨k + 1, ?_⟩
    have e1 : rdOf false l (i : Int) = isN l i := by unfold rdOf isN; simp
    rw [spec_CodRowHead.l1, if_pos (by omega), if_pos (by omega), if_pos (by omega), e1]
    have ew : wrap64 ((i : Int) + 1) = ((i + 1 : Nat) : Int) := by unfold wrap64; omega
    by_cases hb : isN l i = true
    · rw [if_pos hb]
      have eq : wrap64 (Int.tdiv (i : Int) 8) = ((i / 8 : Nat) : Int) := by
        rw [Int.tdiv_eq_ediv_of_nonneg (by omega)]; unfold wrap64; omega
      have em : Int.tmod (i : Int) 8 = ((i % 8 : Nat) : Int) := by rw [Int.tmod_eq_emod_of_nonneg (by omega)]; omega
      have hj : i / 8 < m := by
        have := lastB_ge l i hb l.length (by omega)
        omega
      rw [eq, em, if_pos (by omega), if_pos (by simp; omega), if_pos (by omega), rd_map m _ (i / 8) hj, or_step, ew]
      rw [show (((i / 8 : Nat) : Int)).toNat = i / 8 by omega]
      have hs := set_map m (fun j => ((pkU l j i : Nat) : Int)) (fun j => ((pkU l j (i + 1) : Nat) : Int)) (i / 8) hj (fun q hq => by show ((pkU l q i : Nat) : Int) = ((pkU l q (i + 1) : Nat) : Int); rw [pkU, if_neg (fun h => hq h.1.symm)])
      have hv : pkU l (i / 8) (i + 1) = pkU l (i / 8) i + 2 ^ (i % 8) := by rw [pkU, if_pos ⟨rfl, hb⟩]
      rw [← hv]
      rw [hs]
      exact hk
    · rw [if_neg hb, ew]
      have ee : ((List.range m).map fun j => ((pkU l j i : Nat) : Int)) = ((List.range m).map fun j => ((pkU l j (i + 1) : Nat) : Int)) := by
        apply List.map_congr_left
        intro j _
        rw [pkU, if_neg (fun h => hb h.2)]
      rw [ee]
      exact hk
theorem head_l0 (n : Nat) (hn : n ≤ 10000) (l : List Bool) (hl : l.length ≤ 200) : ∀ (d i : Nat) (x5 : Int), d = l.length - i → i ≤ l.length → (x5 + 8) / 8 = lastB l i + 1 → -1 ≤ x5 → x5 < (i : Int) → ∃ k, spec_CodRowHead.l0 k (n : Int) l x5 l (l.length : Int) (i : Int) = some ⟨(rhead n l).toArray⟩ := by
  intro d
  induction d with
  | zero =>
    intro i x5 hd hi h1 h2 h3
    obtain rfl : i = l.length := by omega
    have hb := lastB_bd l l.length
    obtain ⟨k, hk⟩ := head_l1 n hn l hl _ rfl l.length 0 (by omega) (by omega)
    refine ⟨k + 1, ?_⟩
    have e1 : wrap64 (Int.tdiv (wrap64 (x5 + 8)) 8) = (((lastB l l.length + 1).toNat : Nat) : Int) := by
      rw [show wrap64 (x5 + 8) = x5 + 8 by unfold wrap64; omega, Int.tdiv_eq_ediv_of_nonneg (by omega), h1]
      unfold wrap64; omega
    rw [spec_CodRowHead.l0, if_neg (by omega), e1, if_pos (by omega), if_pos (by omega)]
    have e2 : List.replicate (((lastB l l.length + 1).toNat : Nat) : Int).toNat (0 : Int) = ((List.range (lastB l l.length + 1).toNat).map fun j => ((pkU l j 0 : Nat) : Int)) := by
      rw [show (((lastB l l.length + 1).toNat : Nat) : Int).toNat = (lastB l l.length + 1).toNat by omega]
      apply List.ext_getElem?
      intro q
      by_cases hq : q < (lastB l l.length + 1).toNat
      · simp [hq, pkU]
      · rw [List.getElem?_eq_none (by simp; omega), List.getElem?_eq_none (by simp; omega)]
    rw [e2]
    exact hk
  | succ d ih =>
    intro i x5 hd hi h1 h2 h3
    have ew : wrap64 ((i : Int) + 1) = ((i + 1 : Nat) : Int) := by unfold wrap64; omega
    have e1 : rdOf false l (i : Int) = isN l i := by unfold rdOf isN; simp
    by_cases hb : isN l i = true
    · obtain ⟨k, hk⟩ := ih (i + 1) (i : Int) (by omega) (by omega) (by rw [lastB, if_pos hb]; omega) (by omega) (by omega)
      exact ⟨k + 1, by rw [spec_CodRowHead.l0, if_pos (by omega), if_pos (by omega), if_pos (by omega), e1, if_pos hb, ew]; exact hk⟩
    · obtain ⟨k, hk⟩ := ih (i + 1) x5 (by omega) (by omega) (by rw [lastB, if_neg hb]; exact h1) (by omega) (by omega)
      exact ⟨k + 1, by rw [spec_CodRowHead.l0, if_pos (by omega), if_pos (by omega), if_pos (by omega), e1, if_neg hb, ew]; exact hk⟩
theorem rowHead_some (n : Nat) (hn : n ≤ 10000) (l : List Bool) (hl : l.length ≤ 200) : ∃ k, spec_CodRowHead.f k (n : Int) l = some ⟨(rhead n l).toArray⟩ := by
  obtain ⟨k, hk⟩ := head_l0 n hn l hl l.length 0 (-1) (by omega) (by omega) (by rw [lastB]; decide) (by omega) (by omega)
  exact ⟨k, hk⟩
theorem few_some (n : Int) (l : List Bool) : laws_codRowFew.f n l = some (decide (0 ≤ n ∧ n ≤ 10000 ∧ (l.length : Int) ≤ 200 ∧ (l.length : Int) ≤ n)) := by
  unfold laws_codRowFew.f
  by_cases h0 : n ≥ 0
  · by_cases h1 : n ≤ 10000
    · by_cases h2 : (l.length : Int) ≤ 200
      · rw [if_pos h0, if_pos h1, if_pos h2]
        congr 1
        exact decide_eq_decide.2 ⟨fun h => ⟨h0, h1, h2, h⟩, fun h => h.2.2.2⟩
      · rw [if_pos h0, if_pos h1, if_neg h2, decide_eq_false (fun h => h2 h.2.2.1)]
    · rw [if_pos h0, if_neg h1, decide_eq_false (fun h => h1 h.2.1)]
  · rw [if_neg h0, decide_eq_false (fun h => h0 h.1)]
end Go.Proofs.YtgdbeiadlgkedaaDoor

/-
  DERIVED: THE SHELF's CONTRACTS AT THIS DUMP, IN PLAIN WORDS (tools/lay-plain.mjs out of 'TrydShelf.lean', which tools/lay-shelf.mjs wrote): THE SAME DECLARATIONS UNDER THE SAME NAMES: 'import', 'namespace', 'open', 'def', 'theorem' AND NOTHING ELSE: no command of the shelf's: FOR A HAND-IN. Each laying: the table of numbers ('.._ren') and one theorem, a field a fact of the dump's own or the kernel's comparison; each contract: ONE APPLICATION.
-/
namespace Go.Proofs
open Go.Shelf
def Tryd.laysM181_ren : Go.Shelf.Ren := ⟨fun | 181 => 136 | n => n, fun | 130 => 131 | 3 => 3 | 0 => 0 | 93 => 129 | 37 => 29 | 91 => 127 | 5 => 5 | n => n, fun | n => n⟩
theorem Tryd.laysM181 : Go.Proofs.LaysM.n181 Tryd.prog Tryd.laysM181_ren := {
  mixed := by kernel_rfl
  f181 := Tryd.func136.trans (congrArg some (by kernel_rfl))
  t0 := Tryd.underlying0
  a0 := Tryd.isAgg0
  z0 := Tryd.sizeOf0
  v0 := Tryd.zeroValue0
  t3 := Tryd.underlying3
  a3 := Tryd.isAgg3
  z3 := Tryd.sizeOf3
  v3 := Tryd.zeroValue3
  t37 := Tryd.underlying29
  a37 := Tryd.isAgg29
  z37 := Tryd.sizeOf29
  v37 := Tryd.zeroValue29
  t93 := Tryd.underlying129
  a93 := Tryd.isAgg129
  z93 := Tryd.sizeOf129
  v93 := Tryd.zeroValue129
  t130 := Tryd.underlying131
  a130 := Tryd.isAgg131
  z130 := Tryd.sizeOf131
  v130 := Tryd.zeroValue131
  t5 := Tryd.underlying5
  a5 := Tryd.isAgg5
  z5 := Tryd.sizeOf5
  v5 := Tryd.zeroValue5
  t91 := Tryd.underlying127
  a91 := Tryd.isAgg127
  z91 := Tryd.sizeOf127
  v91 := Tryd.zeroValue127
  i0 := by kernel_rfl
  i3 := by kernel_rfl
  i5 := by kernel_rfl
  i37 := by kernel_rfl
  i91 := by kernel_rfl
  i93 := by kernel_rfl
  i130 := by kernel_rfl }
open Go.RowKit in
/-- (*bytes.Buffer).Len: "Len returns the number of bytes of the unread portion of the buffer; b.Len() == len(b.Bytes()).": the world is as it was but for the count of draws (the statement has two reads: its order is drawn). (LAID: no walk: one application.) -/
theorem Tryd.Buffer_Len (B b : Nat) (bs : List Value) (w : World) (h : Lib.IsBuffer 129 5 B b bs w) :
    Calls Tryd.prog 136 #[.pointer (some ⟨b, 0, none⟩)] w fun e w' => e = .returned (.int .i64 bs.length) ∧ ∃ n, w' = w.drewN n := Any.Buffer_Len Tryd.laysM181 B b bs w h
def Tryd.laysM251_ren : Go.Shelf.Ren := ⟨fun | 251 => 134 | n => n, fun | 130 => 131 | 3 => 3 | 4 => 4 | 0 => 0 | 93 => 129 | 37 => 29 | 91 => 127 | 5 => 5 | n => n, fun | n => n⟩
theorem Tryd.laysM251 : Go.Proofs.LaysM.n251 Tryd.prog Tryd.laysM251_ren := {
  mixed := by kernel_rfl
  f251 := Tryd.func134.trans (congrArg some (by kernel_rfl))
  t0 := Tryd.underlying0
  a0 := Tryd.isAgg0
  z0 := Tryd.sizeOf0
  v0 := Tryd.zeroValue0
  t3 := Tryd.underlying3
  a3 := Tryd.isAgg3
  z3 := Tryd.sizeOf3
  v3 := Tryd.zeroValue3
  t4 := Tryd.underlying4
  a4 := Tryd.isAgg4
  z4 := Tryd.sizeOf4
  v4 := Tryd.zeroValue4
  t37 := Tryd.underlying29
  a37 := Tryd.isAgg29
  z37 := Tryd.sizeOf29
  v37 := Tryd.zeroValue29
  t93 := Tryd.underlying129
  a93 := Tryd.isAgg129
  z93 := Tryd.sizeOf129
  v93 := Tryd.zeroValue129
  t130 := Tryd.underlying131
  a130 := Tryd.isAgg131
  z130 := Tryd.sizeOf131
  v130 := Tryd.zeroValue131
  t5 := Tryd.underlying5
  a5 := Tryd.isAgg5
  z5 := Tryd.sizeOf5
  v5 := Tryd.zeroValue5
  t91 := Tryd.underlying127
  a91 := Tryd.isAgg127
  z91 := Tryd.sizeOf127
  v91 := Tryd.zeroValue127
  i0 := by kernel_rfl
  i3 := by kernel_rfl
  i4 := by kernel_rfl
  i5 := by kernel_rfl
  i37 := by kernel_rfl
  i91 := by kernel_rfl
  i93 := by kernel_rfl
  i130 := by kernel_rfl }
open Go.RowKit in
/-- (*bytes.Buffer).tryGrowByReslice: "tryGrowByReslice is an inlineable version of grow for the fast-case where the internal buffer only needs to be resliced. It returns the index where bytes should be written and whether it succeeded.": THERE IS ROOM: 'buf' is resliced to l + n. (LAID: no walk: one application.) -/
theorem Tryd.Buffer_tryGrow_room (b : Nat) (ao : Option Addr) (l cap n : Nat) (w : World) (c0 : w.cell? ⟨b, 0, none⟩ = some (.slice ao l cap)) (f0 : w.frozen? ⟨b, 0, none⟩ = false) (hlc : l ≤ cap) (hcap : cap ≤ maxLen) (hn : n ≤ cap - l) :
    Calls Tryd.prog 134 #[.pointer (some ⟨b, 0, none⟩), .int .i64 n] w fun e w' => e = .returned (.tuple #[.int .i64 l, .bool true]) ∧ w' = w.setCell ⟨b, 0, none⟩ (.slice ao (l + n) cap) := Any.Buffer_tryGrow_room Tryd.laysM251 b ao l cap n w c0 f0 hlc hcap hn
open Go.RowKit in
/-- .. THERE IS NONE: nothing turns. (LAID: no walk: one application.) -/
theorem Tryd.Buffer_tryGrow_none (b : Nat) (ao : Option Addr) (l cap n : Nat) (w : World) (c0 : w.cell? ⟨b, 0, none⟩ = some (.slice ao l cap)) (hlc : l ≤ cap) (hcap : cap ≤ maxLen) (hn : cap - l < n) :
    Calls Tryd.prog 134 #[.pointer (some ⟨b, 0, none⟩), .int .i64 n] w fun e w' => e = .returned (.tuple #[.int .i64 0, .bool false]) ∧ w' = w := Any.Buffer_tryGrow_none Tryd.laysM251 b ao l cap n w c0 hlc hcap hn
def Tryd.laysM324_ren : Go.Shelf.Ren := ⟨fun | 324 => 138 | n => n, fun | 20 => 20 | 4 => 4 | 75 => 82 | 0 => 0 | 80 => 146 | 9 => 9 | n => n, fun | 14 => 4 | n => n⟩
theorem Tryd.laysM324 : Go.Proofs.LaysM.n324 Tryd.prog Tryd.laysM324_ren := {
  mixed := by kernel_rfl
  f324 := Tryd.func138.trans (congrArg some (by kernel_rfl))
  t0 := Tryd.underlying0
  a0 := Tryd.isAgg0
  z0 := Tryd.sizeOf0
  v0 := Tryd.zeroValue0
  t4 := Tryd.underlying4
  a4 := Tryd.isAgg4
  z4 := Tryd.sizeOf4
  v4 := Tryd.zeroValue4
  t20 := Tryd.underlying20
  a20 := Tryd.isAgg20
  z20 := Tryd.sizeOf20
  v20 := Tryd.zeroValue20
  t75 := Tryd.underlying82
  a75 := Tryd.isAgg82
  z75 := Tryd.sizeOf82
  v75 := Tryd.zeroValue82
  g14 := by kernel_rfl
  t9 := Tryd.underlying9
  a9 := Tryd.isAgg9
  z9 := Tryd.sizeOf9
  v9 := Tryd.zeroValue9
  t80 := Tryd.underlying146
  a80 := Tryd.isAgg146
  z80 := Tryd.sizeOf146
  v80 := Tryd.zeroValue146
  i0 := by kernel_rfl
  i4 := by kernel_rfl
  i9 := by kernel_rfl
  i20 := by kernel_rfl
  i75 := by kernel_rfl
  i80 := by kernel_rfl
  m14 := by kernel_rfl }
theorem Tryd.growSlice_catch_idle (w : World) :
    CallsD Tryd.prog 138 #[] .returning w fun e u' w' => e = .returned (.tuple #[]) ∧ u' = .returning ∧ w' = w := Any.growSlice_catch_idle Tryd.laysM324 w
def Tryd.laysM290_ren : Go.Shelf.Ren := ⟨fun | 290 => 137 | 324 => 138 | n => n, fun | 37 => 29 | 3 => 3 | 0 => 0 | 4 => 4 | 20 => 20 | 75 => 82 | 5 => 5 | 80 => 146 | 9 => 9 | n => n, fun | 14 => 4 | n => n⟩
theorem Tryd.laysM290 : Go.Proofs.LaysM.n290 Tryd.prog Tryd.laysM290_ren := {
  mixed := by kernel_rfl
  f290 := Tryd.func137.trans (congrArg some (by kernel_rfl))
  f324 := Tryd.func138.trans (congrArg some (by kernel_rfl))
  t0 := Tryd.underlying0
  a0 := Tryd.isAgg0
  z0 := Tryd.sizeOf0
  v0 := Tryd.zeroValue0
  t3 := Tryd.underlying3
  a3 := Tryd.isAgg3
  z3 := Tryd.sizeOf3
  v3 := Tryd.zeroValue3
  t4 := Tryd.underlying4
  a4 := Tryd.isAgg4
  z4 := Tryd.sizeOf4
  v4 := Tryd.zeroValue4
  t20 := Tryd.underlying20
  a20 := Tryd.isAgg20
  z20 := Tryd.sizeOf20
  v20 := Tryd.zeroValue20
  t37 := Tryd.underlying29
  a37 := Tryd.isAgg29
  z37 := Tryd.sizeOf29
  v37 := Tryd.zeroValue29
  t75 := Tryd.underlying82
  a75 := Tryd.isAgg82
  z75 := Tryd.sizeOf82
  v75 := Tryd.zeroValue82
  g14 := by kernel_rfl
  t5 := Tryd.underlying5
  a5 := Tryd.isAgg5
  z5 := Tryd.sizeOf5
  v5 := Tryd.zeroValue5
  t9 := Tryd.underlying9
  a9 := Tryd.isAgg9
  z9 := Tryd.sizeOf9
  v9 := Tryd.zeroValue9
  t80 := Tryd.underlying146
  a80 := Tryd.isAgg146
  z80 := Tryd.sizeOf146
  v80 := Tryd.zeroValue146
  i0 := by kernel_rfl
  i3 := by kernel_rfl
  i4 := by kernel_rfl
  i5 := by kernel_rfl
  i9 := by kernel_rfl
  i20 := by kernel_rfl
  i37 := by kernel_rfl
  i75 := by kernel_rfl
  i80 := by kernel_rfl
  m14 := by kernel_rfl }
open Go.RowKit in
/-- bytes.growSlice: "growSlice grows b by n, preserving the original content of b.": OF A SLICE THAT LIES AT THE HEAD OF A ROW: a new row, number 'w.heap.size': it begins with b's l cells; its capacity has room for n more; whatever lay below is as it was. (LAID: no walk: one application.) -/
theorem Tryd.bytes_growSlice_row (g l c n : Nat) (cur : Array Value) (w : World) (hg : w.heap[g]? = some (.cells cur 5 (0, 0))) (hcs : cur.size = c) (hlc : l ≤ c) (hn : 1 ≤ n) (hlim : l + n ≤ 140737488355328) (hc2 : c ≤ 140737488355328) (h1 : ∀ v ∈ cur.toList.take l, v.oneCell' = true) :
    Calls Tryd.prog 137 #[.slice (some ⟨g, 0, none⟩) l c, .int .i64 n] w fun e w' => ∃ cap2 cells, e = .returned (.slice (some ⟨w.heap.size, 0, none⟩) l cap2) ∧ w'.heap[w.heap.size]? = some (.cells cells 5 (0, 0)) ∧
      cells.size = cap2 ∧ cells.toList.take l = cur.toList.take l ∧ l + n ≤ cap2 ∧ cap2 ≤ maxLen ∧ Below w.heap.size w w' := Any.bytes_growSlice_row Tryd.laysM290 g l c n cur w hg hcs hlc hn hlim hc2 h1
open Go.RowKit in
/-- .. OF THE NIL SLICE: a new row with room for n. (LAID: no walk: one application.) -/
theorem Tryd.bytes_growSlice_nil (n : Nat) (w : World) (hn : 1 ≤ n) (hlim : n ≤ 140737488355328) :
    Calls Tryd.prog 137 #[.slice none 0 0, .int .i64 n] w fun e w' => ∃ cap2 cells, e = .returned (.slice (some ⟨w.heap.size, 0, none⟩) 0 cap2) ∧ w'.heap[w.heap.size]? = some (.cells cells 5 (0, 0)) ∧
      cells.size = cap2 ∧ n ≤ cap2 ∧ cap2 ≤ maxLen ∧ Below w.heap.size w w' := Any.bytes_growSlice_nil Tryd.laysM290 n w hn hlim
def Tryd.laysM182_ren : Go.Shelf.Ren := ⟨fun | 182 => 84 | n => n, fun | 130 => 131 | 9 => 9 | 4 => 4 | 0 => 0 | 93 => 129 | 37 => 29 | 3 => 3 | 91 => 127 | 5 => 5 | n => n, fun | n => n⟩
theorem Tryd.laysM182 : Go.Proofs.LaysM.n182 Tryd.prog Tryd.laysM182_ren := {
  mixed := by kernel_rfl
  f182 := Tryd.func84.trans (congrArg some (by kernel_rfl))
  t0 := Tryd.underlying0
  a0 := Tryd.isAgg0
  z0 := Tryd.sizeOf0
  v0 := Tryd.zeroValue0
  t3 := Tryd.underlying3
  a3 := Tryd.isAgg3
  z3 := Tryd.sizeOf3
  v3 := Tryd.zeroValue3
  t4 := Tryd.underlying4
  a4 := Tryd.isAgg4
  z4 := Tryd.sizeOf4
  v4 := Tryd.zeroValue4
  t9 := Tryd.underlying9
  a9 := Tryd.isAgg9
  z9 := Tryd.sizeOf9
  v9 := Tryd.zeroValue9
  t37 := Tryd.underlying29
  a37 := Tryd.isAgg29
  z37 := Tryd.sizeOf29
  v37 := Tryd.zeroValue29
  t93 := Tryd.underlying129
  a93 := Tryd.isAgg129
  z93 := Tryd.sizeOf129
  v93 := Tryd.zeroValue129
  t130 := Tryd.underlying131
  a130 := Tryd.isAgg131
  z130 := Tryd.sizeOf131
  v130 := Tryd.zeroValue131
  t5 := Tryd.underlying5
  a5 := Tryd.isAgg5
  z5 := Tryd.sizeOf5
  v5 := Tryd.zeroValue5
  t91 := Tryd.underlying127
  a91 := Tryd.isAgg127
  z91 := Tryd.sizeOf127
  v91 := Tryd.zeroValue127
  i0 := by kernel_rfl
  i3 := by kernel_rfl
  i4 := by kernel_rfl
  i5 := by kernel_rfl
  i9 := by kernel_rfl
  i37 := by kernel_rfl
  i91 := by kernel_rfl
  i93 := by kernel_rfl
  i130 := by kernel_rfl }
open Go.RowKit in
/-- (*bytes.Buffer).String: "String returns the contents of the unread portion of the buffer as a string.": THE BYTES THAT WERE WRITTEN. The world is as it was but for the count of draws (the statement has two reads: its order is drawn). (LAID: no walk: one application.) -/
theorem Tryd.Buffer_String (B b : Nat) (l : List UInt8) (w : World) (h : Lib.IsBuffer 129 5 B b (Lib.byteCells l) w) :
    Calls Tryd.prog 84 #[.pointer (some ⟨b, 0, none⟩)] w fun e w' => e = .returned (.string ⟨l.toArray⟩) ∧ ∃ n, w' = w.drewN n := Any.Buffer_String Tryd.laysM182 B b l w h
def Tryd.laysBin39_ren : Go.Shelf.Ren := ⟨fun | 39 => 97 | n => n, fun | 37 => 166 | 22 => 29 | 29 => 107 | 0 => 0 | 5 => 5 | 45 => 54 | n => n, fun | n => n⟩
theorem Tryd.laysBin39 : Go.Proofs.LaysBin.n39 Tryd.prog Tryd.laysBin39_ren := {
  mixed := by kernel_rfl
  f39 := Tryd.func97.trans (congrArg some (by kernel_rfl))
  t0 := Tryd.underlying0
  a0 := Tryd.isAgg0
  z0 := Tryd.sizeOf0
  v0 := Tryd.zeroValue0
  i0 := by kernel_rfl
  t5 := Tryd.underlying5
  a5 := Tryd.isAgg5
  z5 := Tryd.sizeOf5
  v5 := Tryd.zeroValue5
  i5 := by kernel_rfl
  t22 := Tryd.underlying29
  a22 := Tryd.isAgg29
  z22 := Tryd.sizeOf29
  v22 := Tryd.zeroValue29
  i22 := by kernel_rfl
  t29 := Tryd.underlying107
  a29 := Tryd.isAgg107
  z29 := Tryd.sizeOf107
  v29 := Tryd.zeroValue107
  i29 := by kernel_rfl
  t37 := Tryd.underlying166
  a37 := Tryd.isAgg166
  z37 := Tryd.sizeOf166
  v37 := Tryd.zeroValue166
  i37 := by kernel_rfl
  t45 := Tryd.underlying54
  a45 := Tryd.isAgg54
  z45 := Tryd.sizeOf54
  v45 := Tryd.zeroValue54
  i45 := by kernel_rfl }
open Go.RowKit in
/-- binary.BigEndian.Uint32: "Uint32 returns the uint32 representation of b[0:4].": THE NUMBER THAT THE FIRST 4 BYTES SPELL, the greatest byte first ('Lib.beNat'). Of what was there nothing has turned (the receiver, an empty struct, is laid in a new block without cells; the statement's order is drawn). (LAID: no walk: one application.) -/
theorem Tryd.binary_BE_Uint32 (g o n c : Nat) (b0 b1 b2 b3 : UInt8) (w : World) (hn : 4 ≤ n) (c0 : w.cell? ⟨g, o, none⟩ = some (.int .u8 b0.toNat)) (c1 : w.cell? ⟨g, o + 1, none⟩ = some (.int .u8 b1.toNat)) (c2 : w.cell? ⟨g, o + 2, none⟩ = some (.int .u8 b2.toNat)) (c3 : w.cell? ⟨g, o + 3, none⟩ = some (.int .u8 b3.toNat)) :
    Calls Tryd.prog 97 #[.agg #[], .slice (some ⟨g, o, none⟩) n c] w fun e w' => e = .returned (.int .u32 (Lib.beNat [b0, b1, b2, b3])) ∧ Below w.heap.size w w' := Any.binary_BE_Uint32 Tryd.laysBin39 g o n c b0 b1 b2 b3 w hn c0 c1 c2 c3
def Tryd.laysBin40_ren : Go.Shelf.Ren := ⟨fun | 40 => 105 | n => n, fun | 37 => 166 | 22 => 29 | 29 => 107 | 0 => 0 | 5 => 5 | 45 => 54 | n => n, fun | n => n⟩
theorem Tryd.laysBin40 : Go.Proofs.LaysBin.n40 Tryd.prog Tryd.laysBin40_ren := {
  mixed := by kernel_rfl
  f40 := Tryd.func105.trans (congrArg some (by kernel_rfl))
  t0 := Tryd.underlying0
  a0 := Tryd.isAgg0
  z0 := Tryd.sizeOf0
  v0 := Tryd.zeroValue0
  i0 := by kernel_rfl
  t5 := Tryd.underlying5
  a5 := Tryd.isAgg5
  z5 := Tryd.sizeOf5
  v5 := Tryd.zeroValue5
  i5 := by kernel_rfl
  t22 := Tryd.underlying29
  a22 := Tryd.isAgg29
  z22 := Tryd.sizeOf29
  v22 := Tryd.zeroValue29
  i22 := by kernel_rfl
  t29 := Tryd.underlying107
  a29 := Tryd.isAgg107
  z29 := Tryd.sizeOf107
  v29 := Tryd.zeroValue107
  i29 := by kernel_rfl
  t37 := Tryd.underlying166
  a37 := Tryd.isAgg166
  z37 := Tryd.sizeOf166
  v37 := Tryd.zeroValue166
  i37 := by kernel_rfl
  t45 := Tryd.underlying54
  a45 := Tryd.isAgg54
  z45 := Tryd.sizeOf54
  v45 := Tryd.zeroValue54
  i45 := by kernel_rfl }
open Go.RowKit in
/-- binary.BigEndian.PutUint32: "PutUint32 stores v into b[0:4].": v's 4 BYTES, the greatest first ('Lib.beBytes 4 v'), ARE LAID IN THE SLICE's FIRST 4 CELLS ('World.setCells'); nothing else turns (the receiver, an empty struct, is laid in a new block without cells). (LAID: no walk: one application.) -/
theorem Tryd.binary_BE_PutUint32 (g o n c v : Nat) (hv : v < 4294967296) (x0 x1 x2 x3 : Value) (w : World) (hn : 4 ≤ n) (c0 : w.cell? ⟨g, o, none⟩ = some x0) (c1 : w.cell? ⟨g, o + 1, none⟩ = some x1) (c2 : w.cell? ⟨g, o + 2, none⟩ = some x2) (c3 : w.cell? ⟨g, o + 3, none⟩ = some x3) (f0 : w.frozen? ⟨g, o, none⟩ = false) (f1 : w.frozen? ⟨g, o + 1, none⟩ = false) (f2 : w.frozen? ⟨g, o + 2, none⟩ = false) (f3 : w.frozen? ⟨g, o + 3, none⟩ = false) :
    Calls Tryd.prog 105 #[.agg #[], .slice (some ⟨g, o, none⟩) n c, .int .u32 v] w fun e w' => e = .returned (.tuple #[]) ∧ w' = (w.alloc (.cells #[] 166)).setCells g o (Lib.byteCells (Lib.beBytes 4 v)) := Any.binary_BE_PutUint32 Tryd.laysBin40 g o n c v hv x0 x1 x2 x3 w hn c0 c1 c2 c3 f0 f1 f2 f3
def Tryd.laysBin42_ren : Go.Shelf.Ren := ⟨fun | 42 => 96 | n => n, fun | 37 => 166 | 22 => 29 | 33 => 22 | 0 => 0 | 5 => 5 | 45 => 54 | n => n, fun | n => n⟩
theorem Tryd.laysBin42 : Go.Proofs.LaysBin.n42 Tryd.prog Tryd.laysBin42_ren := {
  mixed := by kernel_rfl
  f42 := Tryd.func96.trans (congrArg some (by kernel_rfl))
  t0 := Tryd.underlying0
  a0 := Tryd.isAgg0
  z0 := Tryd.sizeOf0
  v0 := Tryd.zeroValue0
  i0 := by kernel_rfl
  t5 := Tryd.underlying5
  a5 := Tryd.isAgg5
  z5 := Tryd.sizeOf5
  v5 := Tryd.zeroValue5
  i5 := by kernel_rfl
  t22 := Tryd.underlying29
  a22 := Tryd.isAgg29
  z22 := Tryd.sizeOf29
  v22 := Tryd.zeroValue29
  i22 := by kernel_rfl
  t33 := Tryd.underlying22
  a33 := Tryd.isAgg22
  z33 := Tryd.sizeOf22
  v33 := Tryd.zeroValue22
  i33 := by kernel_rfl
  t37 := Tryd.underlying166
  a37 := Tryd.isAgg166
  z37 := Tryd.sizeOf166
  v37 := Tryd.zeroValue166
  i37 := by kernel_rfl
  t45 := Tryd.underlying54
  a45 := Tryd.isAgg54
  z45 := Tryd.sizeOf54
  v45 := Tryd.zeroValue54
  i45 := by kernel_rfl }
open Go.RowKit in
/-- binary.BigEndian.Uint64: "Uint64 returns the uint64 representation of b[0:8].": THE NUMBER THAT THE FIRST 8 BYTES SPELL, the greatest byte first ('Lib.beNat'). Of what was there nothing has turned (the receiver, an empty struct, is laid in a new block without cells; the statement's order is drawn). (LAID: no walk: one application.) -/
theorem Tryd.binary_BE_Uint64 (g o n c : Nat) (b0 b1 b2 b3 b4 b5 b6 b7 : UInt8) (w : World) (hn : 8 ≤ n) (c0 : w.cell? ⟨g, o, none⟩ = some (.int .u8 b0.toNat)) (c1 : w.cell? ⟨g, o + 1, none⟩ = some (.int .u8 b1.toNat)) (c2 : w.cell? ⟨g, o + 2, none⟩ = some (.int .u8 b2.toNat)) (c3 : w.cell? ⟨g, o + 3, none⟩ = some (.int .u8 b3.toNat)) (c4 : w.cell? ⟨g, o + 4, none⟩ = some (.int .u8 b4.toNat)) (c5 : w.cell? ⟨g, o + 5, none⟩ = some (.int .u8 b5.toNat)) (c6 : w.cell? ⟨g, o + 6, none⟩ = some (.int .u8 b6.toNat)) (c7 : w.cell? ⟨g, o + 7, none⟩ = some (.int .u8 b7.toNat)) :
    Calls Tryd.prog 96 #[.agg #[], .slice (some ⟨g, o, none⟩) n c] w fun e w' => e = .returned (.int .u64 (Lib.beNat [b0, b1, b2, b3, b4, b5, b6, b7])) ∧ Below w.heap.size w w' := Any.binary_BE_Uint64 Tryd.laysBin42 g o n c b0 b1 b2 b3 b4 b5 b6 b7 w hn c0 c1 c2 c3 c4 c5 c6 c7
def Tryd.laysBin43_ren : Go.Shelf.Ren := ⟨fun | 43 => 103 | n => n, fun | 37 => 166 | 22 => 29 | 33 => 22 | 0 => 0 | 5 => 5 | 45 => 54 | n => n, fun | n => n⟩
theorem Tryd.laysBin43 : Go.Proofs.LaysBin.n43 Tryd.prog Tryd.laysBin43_ren := {
  mixed := by kernel_rfl
  f43 := Tryd.func103.trans (congrArg some (by kernel_rfl))
  t0 := Tryd.underlying0
  a0 := Tryd.isAgg0
  z0 := Tryd.sizeOf0
  v0 := Tryd.zeroValue0
  i0 := by kernel_rfl
  t5 := Tryd.underlying5
  a5 := Tryd.isAgg5
  z5 := Tryd.sizeOf5
  v5 := Tryd.zeroValue5
  i5 := by kernel_rfl
  t22 := Tryd.underlying29
  a22 := Tryd.isAgg29
  z22 := Tryd.sizeOf29
  v22 := Tryd.zeroValue29
  i22 := by kernel_rfl
  t33 := Tryd.underlying22
  a33 := Tryd.isAgg22
  z33 := Tryd.sizeOf22
  v33 := Tryd.zeroValue22
  i33 := by kernel_rfl
  t37 := Tryd.underlying166
  a37 := Tryd.isAgg166
  z37 := Tryd.sizeOf166
  v37 := Tryd.zeroValue166
  i37 := by kernel_rfl
  t45 := Tryd.underlying54
  a45 := Tryd.isAgg54
  z45 := Tryd.sizeOf54
  v45 := Tryd.zeroValue54
  i45 := by kernel_rfl }
open Go.RowKit in
/-- binary.BigEndian.PutUint64: "PutUint64 stores v into b[0:8].": v's 8 BYTES, the greatest first ('Lib.beBytes 8 v'), ARE LAID IN THE SLICE's FIRST 8 CELLS ('World.setCells'); nothing else turns (the receiver, an empty struct, is laid in a new block without cells). (LAID: no walk: one application.) -/
theorem Tryd.binary_BE_PutUint64 (g o n c v : Nat) (hv : v < 18446744073709551616) (x0 x1 x2 x3 x4 x5 x6 x7 : Value) (w : World) (hn : 8 ≤ n) (c0 : w.cell? ⟨g, o, none⟩ = some x0) (c1 : w.cell? ⟨g, o + 1, none⟩ = some x1) (c2 : w.cell? ⟨g, o + 2, none⟩ = some x2) (c3 : w.cell? ⟨g, o + 3, none⟩ = some x3) (c4 : w.cell? ⟨g, o + 4, none⟩ = some x4) (c5 : w.cell? ⟨g, o + 5, none⟩ = some x5) (c6 : w.cell? ⟨g, o + 6, none⟩ = some x6) (c7 : w.cell? ⟨g, o + 7, none⟩ = some x7) (f0 : w.frozen? ⟨g, o, none⟩ = false) (f1 : w.frozen? ⟨g, o + 1, none⟩ = false) (f2 : w.frozen? ⟨g, o + 2, none⟩ = false) (f3 : w.frozen? ⟨g, o + 3, none⟩ = false) (f4 : w.frozen? ⟨g, o + 4, none⟩ = false) (f5 : w.frozen? ⟨g, o + 5, none⟩ = false) (f6 : w.frozen? ⟨g, o + 6, none⟩ = false) (f7 : w.frozen? ⟨g, o + 7, none⟩ = false) :
    Calls Tryd.prog 103 #[.agg #[], .slice (some ⟨g, o, none⟩) n c, .int .u64 v] w fun e w' => e = .returned (.tuple #[]) ∧ w' = (w.alloc (.cells #[] 166)).setCells g o (Lib.byteCells (Lib.beBytes 8 v)) := Any.binary_BE_PutUint64 Tryd.laysBin43 g o n c v hv x0 x1 x2 x3 x4 x5 x6 x7 w hn c0 c1 c2 c3 c4 c5 c6 c7 f0 f1 f2 f3 f4 f5 f6 f7
def Tryd.laysM252_ren : Go.Shelf.Ren := ⟨fun | 252 => 135 | 181 => 136 | 184 => 131 | 251 => 134 | 290 => 137 | 324 => 138 | n => n, fun | 130 => 131 | 3 => 3 | 4 => 4 | 0 => 0 | 93 => 129 | 131 => 204 | 37 => 29 | 75 => 82 | 91 => 127 | 20 => 20 | 5 => 5 | 80 => 146 | 9 => 9 | n => n, fun | 14 => 4 | n => n⟩
theorem Tryd.laysM252 : Go.Proofs.LaysM.n252 Tryd.prog Tryd.laysM252_ren := {
  mixed := by kernel_rfl
  f181 := Tryd.func136.trans (congrArg some (by kernel_rfl))
  f184 := Tryd.func131.trans (congrArg some (by kernel_rfl))
  f251 := Tryd.func134.trans (congrArg some (by kernel_rfl))
  f252 := Tryd.func135.trans (congrArg some (by kernel_rfl))
  f290 := Tryd.func137.trans (congrArg some (by kernel_rfl))
  f324 := Tryd.func138.trans (congrArg some (by kernel_rfl))
  t0 := Tryd.underlying0
  a0 := Tryd.isAgg0
  z0 := Tryd.sizeOf0
  v0 := Tryd.zeroValue0
  t3 := Tryd.underlying3
  a3 := Tryd.isAgg3
  z3 := Tryd.sizeOf3
  v3 := Tryd.zeroValue3
  t4 := Tryd.underlying4
  a4 := Tryd.isAgg4
  z4 := Tryd.sizeOf4
  v4 := Tryd.zeroValue4
  t20 := Tryd.underlying20
  a20 := Tryd.isAgg20
  z20 := Tryd.sizeOf20
  v20 := Tryd.zeroValue20
  t37 := Tryd.underlying29
  a37 := Tryd.isAgg29
  z37 := Tryd.sizeOf29
  v37 := Tryd.zeroValue29
  t75 := Tryd.underlying82
  a75 := Tryd.isAgg82
  z75 := Tryd.sizeOf82
  v75 := Tryd.zeroValue82
  t91 := Tryd.underlying127
  a91 := Tryd.isAgg127
  z91 := Tryd.sizeOf127
  v91 := Tryd.zeroValue127
  t93 := Tryd.underlying129
  a93 := Tryd.isAgg129
  z93 := Tryd.sizeOf129
  v93 := Tryd.zeroValue129
  t130 := Tryd.underlying131
  a130 := Tryd.isAgg131
  z130 := Tryd.sizeOf131
  v130 := Tryd.zeroValue131
  t131 := Tryd.underlying204
  a131 := Tryd.isAgg204
  z131 := Tryd.sizeOf204
  v131 := Tryd.zeroValue204
  g14 := by kernel_rfl
  t5 := Tryd.underlying5
  a5 := Tryd.isAgg5
  z5 := Tryd.sizeOf5
  v5 := Tryd.zeroValue5
  t9 := Tryd.underlying9
  a9 := Tryd.isAgg9
  z9 := Tryd.sizeOf9
  v9 := Tryd.zeroValue9
  t80 := Tryd.underlying146
  a80 := Tryd.isAgg146
  z80 := Tryd.sizeOf146
  v80 := Tryd.zeroValue146
  i0 := by kernel_rfl
  i3 := by kernel_rfl
  i4 := by kernel_rfl
  i5 := by kernel_rfl
  i9 := by kernel_rfl
  i20 := by kernel_rfl
  i37 := by kernel_rfl
  i75 := by kernel_rfl
  i80 := by kernel_rfl
  i91 := by kernel_rfl
  i93 := by kernel_rfl
  i130 := by kernel_rfl
  i131 := by kernel_rfl
  m14 := by kernel_rfl }
open Go.RowKit in
/-- grow, WHERE THE BUFFER HOLDS A ROW, NO BYTE IN IT (behind a Reset), AND THE ROW HAS NO ROOM: growSlice. (THE TEXT OF 'Buffer_grow_row' WITH 0 FOR l, BY PROGRAM: the walk parts on 'm == 0' and writes 0 for l throughout the goal: facts that still say l then do not strike: so l is laid in ahead of the walk.) (LAID: no walk: one application.) -/
theorem Tryd.Buffer_grow_row0_own (B b g cap n : Nat) (lr : Int) (cur : Array Value) (bs : List Value) (w : World) (hB : B ≤ b) (hBw : B ≤ w.heap.size) (hbk : w.heap[b]? = some (.cells #[.slice (some ⟨g, 0, none⟩) 0 cap, .int .i64 0, .int .i8 lr] 129 (0, 0))) (hl : bs.length = 0) (hBg : B ≤ g) (hg : w.heap[g]? = some (.cells cur 5 (0, 0))) (hlc : 0 ≤ cap) (hcm : cap ≤ maxLen) (hcs : cur.size = cap) (htake : cur.toList.take 0 = bs) (hgb : g ≠ b) (h1 : ∀ v ∈ bs, v.oneCell' = true) (hn : 1 ≤ n) (hroom : cap - 0 < n) (hlim : 0 + n ≤ 140737488355328) :
    Calls Tryd.prog 135 #[.pointer (some ⟨b, 0, none⟩), .int .i64 n] w fun e w' => e = .returned (.int .i64 0) ∧ ∃ xs, xs.length = n ∧ Lib.IsBuffer 129 5 B b (bs ++ xs) w' ∧ Below B w w' ∧ Lib.OthersKept 5 (some b) w w' ∧ w.grownBy w' (some b) := Any.Buffer_grow_row0_own Tryd.laysM252 B b g cap n lr cur bs w hB hBw hbk hl hBg hg hlc hcm hcs htake hgb h1 hn hroom hlim
open Go.RowKit in
/-- grow, WHERE THE BUFFER HOLDS A ROW THAT HAS NO ROOM: growSlice. (LAID: no walk: one application.) -/
theorem Tryd.Buffer_grow_row_own (B b g l cap n : Nat) (lr : Int) (cur : Array Value) (bs : List Value) (w : World) (hB : B ≤ b) (hBw : B ≤ w.heap.size) (hbk : w.heap[b]? = some (.cells #[.slice (some ⟨g, 0, none⟩) l cap, .int .i64 0, .int .i8 lr] 129 (0, 0))) (hl : bs.length = l) (hBg : B ≤ g) (hg : w.heap[g]? = some (.cells cur 5 (0, 0))) (hlc : l ≤ cap) (hcm : cap ≤ maxLen) (hcs : cur.size = cap) (htake : cur.toList.take l = bs) (hgb : g ≠ b) (h1 : ∀ v ∈ bs, v.oneCell' = true) (hn : 1 ≤ n) (hroom : cap - l < n) (hlim : l + n ≤ 140737488355328) :
    Calls Tryd.prog 135 #[.pointer (some ⟨b, 0, none⟩), .int .i64 n] w fun e w' => e = .returned (.int .i64 l) ∧ ∃ xs, xs.length = n ∧ Lib.IsBuffer 129 5 B b (bs ++ xs) w' ∧ Below B w w' ∧ Lib.OthersKept 5 (some b) w w' ∧ w.grownBy w' (some b) := Any.Buffer_grow_row_own Tryd.laysM252 B b g l cap n lr cur bs w hB hBw hbk hl hBg hg hlc hcm hcs htake hgb h1 hn hroom hlim
open Go.RowKit in
/-- grow, 'buf' nil, n AT MOST 64: 'b.buf = make([]byte, n, smallBufferSize)'. (LAID: no walk: one application.) -/
theorem Tryd.Buffer_grow_nil_small_own (B b n : Nat) (lr : Int) (w : World) (hB : B ≤ b) (hBw : B ≤ w.heap.size) (hbk : w.heap[b]? = some (.cells #[.slice none 0 0, .int .i64 0, .int .i8 lr] 129 (0, 0))) (hn : 1 ≤ n) (h64 : n ≤ 64) :
    Calls Tryd.prog 135 #[.pointer (some ⟨b, 0, none⟩), .int .i64 n] w fun e w' => e = .returned (.int .i64 0) ∧ ∃ xs, xs.length = n ∧ Lib.IsBuffer 129 5 B b xs w' ∧ Below B w w' ∧ Lib.OthersKept 5 (some b) w w' ∧ w.grownBy w' (some b) := Any.Buffer_grow_nil_small_own Tryd.laysM252 B b n lr w hB hBw hbk hn h64
open Go.RowKit in
/-- grow, 'buf' nil, n ABOVE 64: growSlice of the nil slice. (LAID: no walk: one application.) -/
theorem Tryd.Buffer_grow_nil_big_own (B b n : Nat) (lr : Int) (w : World) (hB : B ≤ b) (hBw : B ≤ w.heap.size) (hbk : w.heap[b]? = some (.cells #[.slice none 0 0, .int .i64 0, .int .i8 lr] 129 (0, 0))) (h64 : 64 < n) (hlim : n ≤ 140737488355328) :
    Calls Tryd.prog 135 #[.pointer (some ⟨b, 0, none⟩), .int .i64 n] w fun e w' => e = .returned (.int .i64 0) ∧ ∃ xs, xs.length = n ∧ Lib.IsBuffer 129 5 B b xs w' ∧ Below B w w' ∧ Lib.OthersKept 5 (some b) w w' ∧ w.grownBy w' (some b) := Any.Buffer_grow_nil_big_own Tryd.laysM252 B b n lr w hB hBw hbk h64 hlim
open Go.RowKit in
/-- tryGrowByReslice: EITHER there is room: the place to write at is the old length, and the buffer holds the old bytes and n more of whatever lay there; OR there is none: nothing turns, and 'Lib.NoRoom' is what grow asks. (LAID: no walk: one application.) -/
theorem Tryd.Buffer_tryGrow_own (B b n : Nat) (bs : List Value) (w : World) (h : Lib.IsBuffer 129 5 B b bs w) :
    Calls Tryd.prog 134 #[.pointer (some ⟨b, 0, none⟩), .int .i64 n] w fun e w' =>
      (e = .returned (.tuple #[.int .i64 bs.length, .bool true]) ∧ ∃ xs, xs.length = n ∧ Lib.IsBuffer 129 5 B b (bs ++ xs) w' ∧ Below B w w' ∧ Lib.OthersKept 5 (some b) w w' ∧ w.grownBy w' (some b)) ∨
      (e = .returned (.tuple #[.int .i64 0, .bool false]) ∧ w' = w ∧ Lib.NoRoom b n w) := Any.Buffer_tryGrow_own Tryd.laysM251 B b n bs w h
open Go.RowKit in
/-- (*bytes.Buffer).grow: "grow grows the buffer to guarantee space for n more bytes. It returns the index where bytes should be written.": WHERE THERE IS NO ROOM; UNDER Go's OWN LIMIT (the new length takes at most 2^47 bytes): the old length; the buffer holds the old bytes and n more of whatever. (LAID: no walk: one application.) -/
theorem Tryd.Buffer_grow_own (B b n : Nat) (bs : List Value) (w : World) (h : Lib.IsBuffer 129 5 B b bs w) (hnr : Lib.NoRoom b n w) (hBw : B ≤ w.heap.size) (h1 : ∀ v ∈ bs, v.oneCell' = true) (hlim : bs.length + n ≤ 140737488355328) :
    Calls Tryd.prog 135 #[.pointer (some ⟨b, 0, none⟩), .int .i64 n] w fun e w' => e = .returned (.int .i64 bs.length) ∧ ∃ xs, xs.length = n ∧ Lib.IsBuffer 129 5 B b (bs ++ xs) w' ∧ Below B w w' ∧ Lib.OthersKept 5 (some b) w w' ∧ w.grownBy w' (some b) := Any.Buffer_grow_own Tryd.laysM252 B b n bs w h hnr hBw h1 hlim
def Tryd.laysM180_ren : Go.Shelf.Ren := ⟨fun | 180 => 132 | 251 => 134 | 252 => 135 | 181 => 136 | 184 => 131 | 290 => 137 | 324 => 138 | n => n, fun | 130 => 131 | 37 => 29 | 3 => 3 | 75 => 82 | 0 => 0 | 93 => 129 | 91 => 127 | 131 => 204 | 4 => 4 | 20 => 20 | 5 => 5 | 80 => 146 | 9 => 9 | n => n, fun | 14 => 4 | n => n⟩
theorem Tryd.laysM180 : Go.Proofs.LaysM.n180 Tryd.prog Tryd.laysM180_ren := {
  mixed := by kernel_rfl
  f180 := Tryd.func132.trans (congrArg some (by kernel_rfl))
  f181 := Tryd.func136.trans (congrArg some (by kernel_rfl))
  f184 := Tryd.func131.trans (congrArg some (by kernel_rfl))
  f251 := Tryd.func134.trans (congrArg some (by kernel_rfl))
  f252 := Tryd.func135.trans (congrArg some (by kernel_rfl))
  f290 := Tryd.func137.trans (congrArg some (by kernel_rfl))
  f324 := Tryd.func138.trans (congrArg some (by kernel_rfl))
  t0 := Tryd.underlying0
  a0 := Tryd.isAgg0
  z0 := Tryd.sizeOf0
  v0 := Tryd.zeroValue0
  t3 := Tryd.underlying3
  a3 := Tryd.isAgg3
  z3 := Tryd.sizeOf3
  v3 := Tryd.zeroValue3
  t4 := Tryd.underlying4
  a4 := Tryd.isAgg4
  z4 := Tryd.sizeOf4
  v4 := Tryd.zeroValue4
  t20 := Tryd.underlying20
  a20 := Tryd.isAgg20
  z20 := Tryd.sizeOf20
  v20 := Tryd.zeroValue20
  t37 := Tryd.underlying29
  a37 := Tryd.isAgg29
  z37 := Tryd.sizeOf29
  v37 := Tryd.zeroValue29
  t75 := Tryd.underlying82
  a75 := Tryd.isAgg82
  z75 := Tryd.sizeOf82
  v75 := Tryd.zeroValue82
  t91 := Tryd.underlying127
  a91 := Tryd.isAgg127
  z91 := Tryd.sizeOf127
  v91 := Tryd.zeroValue127
  t93 := Tryd.underlying129
  a93 := Tryd.isAgg129
  z93 := Tryd.sizeOf129
  v93 := Tryd.zeroValue129
  t130 := Tryd.underlying131
  a130 := Tryd.isAgg131
  z130 := Tryd.sizeOf131
  v130 := Tryd.zeroValue131
  t131 := Tryd.underlying204
  a131 := Tryd.isAgg204
  z131 := Tryd.sizeOf204
  v131 := Tryd.zeroValue204
  g14 := by kernel_rfl
  t5 := Tryd.underlying5
  a5 := Tryd.isAgg5
  z5 := Tryd.sizeOf5
  v5 := Tryd.zeroValue5
  t9 := Tryd.underlying9
  a9 := Tryd.isAgg9
  z9 := Tryd.sizeOf9
  v9 := Tryd.zeroValue9
  t80 := Tryd.underlying146
  a80 := Tryd.isAgg146
  z80 := Tryd.sizeOf146
  v80 := Tryd.zeroValue146
  i0 := by kernel_rfl
  i3 := by kernel_rfl
  i4 := by kernel_rfl
  i5 := by kernel_rfl
  i9 := by kernel_rfl
  i20 := by kernel_rfl
  i37 := by kernel_rfl
  i75 := by kernel_rfl
  i80 := by kernel_rfl
  i91 := by kernel_rfl
  i93 := by kernel_rfl
  i130 := by kernel_rfl
  i131 := by kernel_rfl
  m14 := by kernel_rfl }
open Go.RowKit in
/-- (*bytes.Buffer).Write: "Write appends the contents of p to the buffer, growing the buffer as needed. The return value n is the length of p; err is always nil." (LAID: no walk: one application.) -/
theorem Tryd.Buffer_Write_any (B b : Nat) (bs cs : List Value) (a : Addr) (n c : Nat) (w : World) (h : Lib.IsBuffer 129 5 B b bs w) (hBw : B ≤ w.heap.size) (h1 : ∀ v ∈ bs, v.oneCell' = true) (hn : cs.length = n) (hab : a.block ≠ b) (hsrc : ∀ j v, cs[j]? = some v → w.cell? (a.add j) = some v) (h1c : ∀ v ∈ cs, v.oneCell' = true) (hlim : bs.length + n ≤ 140737488355328) :
    Calls Tryd.prog 132 #[.pointer (some ⟨b, 0, none⟩), .slice (some a) n c] w fun e w' => e = .returned (.tuple #[.int .i64 n, .nilIface]) ∧ Lib.IsBuffer 129 5 B b (bs ++ cs) w' ∧ Below B w w' ∧ Lib.OthersKept 5 (some b) w w' := Any.Buffer_Write_any Tryd.laysM180 B b bs cs a n c w h hBw h1 hn hab hsrc h1c hlim
end Go.Proofs
