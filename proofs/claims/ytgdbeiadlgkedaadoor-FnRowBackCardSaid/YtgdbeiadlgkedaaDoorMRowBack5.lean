/- Contracts and plain laws, several texts in one. -/
import Derived.Test.YtgdbeiadlgkedaaDoorMRowBack4
import Derived.Lib.Varint
import Derived.Outline
/- Plain: the packed bits of a row's nil fields. -/
set_option linter.unusedVariables false
set_option linter.unusedSimpArgs false
namespace Go.Proofs.YtgdbeiadlgkedaaDoor
open Go.RowKit
def isN (l : List Bool) (i : Nat) : Bool := l.getD i false
/-- Block j's bits of the fields ahead of i. -/
def pkU (l : List Bool) (j : Nat) : Nat → Nat
  | 0 => 0
  | i + 1 => if i / 8 = j ∧ isN l i = true then pkU l j i + 2 ^ (i % 8) else pkU l j i
/-- The last block with a nil field, of those ahead of i. -/
def lastB (l : List Bool) : Nat → Int
  | 0 => -1
  | i + 1 => if isN l i = true then ((i / 8 : Nat) : Int) else lastB l i
theorem isN_out {l : List Bool} {i : Nat} (h : l.length ≤ i) : isN l i = false := by unfold isN; rw [List.getD_eq_getElem?_getD, List.getElem?_eq_none h]; rfl
theorem pkU_low (l : List Bool) (j : Nat) : ∀ i, i ≤ 8 * j → pkU l j i = 0
  | 0, _ => rfl
  | i + 1, h => by rw [pkU, if_neg (by omega), pkU_low l j i (by omega)]
theorem pkU_lt (l : List Bool) (j : Nat) : ∀ i, 8 * j ≤ i → i ≤ 8 * j + 8 → pkU l j i < 2 ^ (i - 8 * j)
  | 0, h, _ => by rw [pkU]; exact Nat.pos_of_ne_zero (by simp)
  | i + 1, h, h2 => by
    by_cases e : i + 1 = 8 * j
    · rw [pkU_low l j (i + 1) (by omega)]; exact Nat.pos_of_ne_zero (by simp)
    · have ih := pkU_lt l j i (by omega) (by omega)
      have e2 : i + 1 - 8 * j = (i - 8 * j) + 1 := by omega
      have e3 : i % 8 = i - 8 * j := by omega
      rw [e2, Nat.pow_succ, pkU]
      split
      · rw [e3]; omega
      · omega
theorem pkU_step (l : List Bool) (j : Nat) {i : Nat} (h : 8 * j + 8 ≤ i) : pkU l j (i + 1) = pkU l j i := by rw [pkU, if_neg (by omega)]
theorem pkU_high (l : List Bool) (j : Nat) : ∀ i, 8 * j + 8 ≤ i → pkU l j i = pkU l j (8 * j + 8) := by
  intro i h
  induction i with
  | zero => omega
  | succ i ih =>
    by_cases e : i + 1 = 8 * j + 8
    · rw [e]
    · rw [pkU_step l j (by omega), ih (by omega)]
theorem pkU_end (l : List Bool) (j : Nat) : ∀ i, l.length ≤ i → pkU l j i = pkU l j l.length := by
  intro i h
  induction i with
  | zero =>
    have : l.length = 0 := by omega
    rw [this]
  | succ i ih =>
    by_cases e : i + 1 = l.length
    · rw [e]
    · rw [pkU, isN_out (by omega), if_neg (by simp), ih (by omega)]
theorem pkU_256 (l : List Bool) (j i : Nat) : pkU l j i < 256 := by
  rcases Nat.lt_or_ge i (8 * j) with h | h
  · rw [pkU_low l j i (by omega)]; omega
  · rcases Nat.lt_or_ge i (8 * j + 8) with h2 | h2
    · have := pkU_lt l j i h (by omega)
      have h3 : 2 ^ (i - 8 * j) ≤ 2 ^ 8 := Nat.pow_le_pow_right (by decide) (by omega)
      omega
    · rw [pkU_high l j i h2]
      have := pkU_lt l j (8 * j + 8) (by omega) (by omega)
      rw [show 8 * j + 8 - 8 * j = 8 by omega] at this
      omega
theorem lastB_bd (l : List Bool) : ∀ i, -1 ≤ lastB l i ∧ lastB l i * 8 < (i : Int)
  | 0 => by unfold lastB; omega
  | i + 1 => by
    have := lastB_bd l i
    unfold lastB
    split <;> omega
theorem lastB_end (l : List Bool) : ∀ i, l.length ≤ i → lastB l i = lastB l l.length := by
  intro i h
  induction i with
  | zero =>
    have : l.length = 0 := by omega
    rw [this]
  | succ i ih =>
    by_cases e : i + 1 = l.length
    · rw [e]
    · rw [lastB, isN_out (by omega), if_neg (by simp), ih (by omega)]
theorem or_bit : ∀ (k : Fin 8) (x : Fin 256), (x : Nat) < 2 ^ (k : Nat) → Go.bits .or .u8 ((x : Nat) : Int) ((2 ^ (k : Nat) : Nat) : Int) = (((x : Nat) + 2 ^ (k : Nat) : Nat) : Int) := by decide +kernel
/-- The bytes of the nil fields. -/
def rbytes (l : List Bool) : List Nat := (List.range (lastB l l.length + 1).toNat).map fun j => pkU l j l.length
end Go.Proofs.YtgdbeiadlgkedaaDoor

/- Plain: a row's head, as the printed function tells it. -/
set_option linter.unusedVariables false
set_option linter.unusedSimpArgs false
namespace Go.Proofs.YtgdbeiadlgkedaaDoor
open Go.RowKit PFnRowHeader Go.Proofs.YtgdbeiadlgkedaaDoorW.PrintWords Go.Proofs.YtgdbeiadlgkedaaDoorW.PrintLast Go.Proofs.YtgdbeiadlgkedaaDoorW.PrintMore
theorem or128b : ∀ d : Fin 256, Go.bits .or .u8 ((d : Nat) : Int) 128 = (((d : Nat) % 128 + 128 : Nat) : Int) := by decide +kernel
theorem sn_one (m : Nat) : strOfNums [((m : Nat) : Int)] = ⟨#[m.toUInt8]⟩ := by simp [strOfNums]
theorem le1 (s : ByteArray) (x : UInt8) (h : s.size + 1 ≤ 1000) : s.size + (⟨#[x]⟩ : ByteArray).size ≤ 9223372036854775807 := Nat.le_trans h (by decide)
theorem varint_l0 : ∀ (n v : Nat) (s : ByteArray), v ≤ n → s.size + (Lib.uvarint v).length ≤ 1000 → ∃ k, spec_CodVarint.l0 k (v : Int) s = some (s ++ ⟨(Lib.uvarint v).toArray⟩) := by
  intro n
  induction n with
  | zero =>
    intro v s hv hs
    obtain rfl : v = 0 := by omega
    refine ⟨1, ?_⟩
    rw [Lib.uvarint_small (by decide)] at hs ⊢
    rw [spec_CodVarint.l0, if_neg (by omega)]
    simp only [Option.bind_some]
    rw [show (((0 : Nat) : Int) % 256) = ((0 : Nat) : Int) by decide, sn_one]
    rw [if_pos (le1 s _ (show s.size + 1 ≤ 1000 from hs))]
  | succ n ih =>
    intro v s hv hs
    by_cases h : v < 128
    · refine ⟨1, ?_⟩
      rw [Lib.uvarint_small h] at hs ⊢
      rw [spec_CodVarint.l0, if_neg (by omega)]
      simp only [Option.bind_some]
      rw [show ((v : Int) % 256) = ((v : Nat) : Int) by omega, sn_one]
      rw [if_pos (le1 s _ (show s.size + 1 ≤ 1000 from hs))]
    · rw [Lib.uvarint_big (by omega)] at hs ⊢
      obtain ⟨k, hk⟩ := ih (v / 128) (s ++ ⟨#[(v % 128 + 128).toUInt8]⟩) (by omega) (by rw [List.length_cons] at hs; rw [ByteArray.size_append]; show s.size + 1 + _ ≤ 1000; omega)
      refine ⟨k + 1, ?_⟩
      rw [spec_CodVarint.l0, if_pos (by omega)]
      simp only [Option.bind_some]
      have e : ((v : Int) % 256) = (((⟨v % 256, by omega⟩ : Fin 256) : Nat) : Int) := by simp
      rw [e, or128b, show ((⟨v % 256, by omega⟩ : Fin 256) : Nat) % 128 + 128 = v % 128 + 128 by simp only; omega, sn_one]
      rw [if_pos (le1 s _ (show s.size + 1 ≤ 1000 by rw [List.length_cons] at hs; omega)), show ((v : Int) / 128) = ((v / 128 : Nat) : Int) by omega, hk]
      congr 1
      apply ByteArray.ext
      simp
theorem varint_some (v : Nat) (hv : v < 18446744073709551616) : ∃ k, spec_CodVarint.f k (v : Int) = some ⟨(Lib.uvarint v).toArray⟩ := by
  obtain ⟨k, hk⟩ := varint_l0 v v ⟨#[]⟩ (Nat.le_refl _) (by have := Lib.uvarint_length64 hv; simp [ByteArray.size]; omega)
  refine ⟨k, ?_⟩
  rw [spec_CodVarint.f, hk]
  congr 1
theorem varint_up (y : Int) (r : ByteArray) : ∀ d k, spec_CodVarint.f k y = some r → spec_CodVarint.f (k + d) y = some r
  | 0, _, h => h
  | d + 1, k, h => spec_CodVarint.mono y (k + d) r (varint_up y r d k h)
def u64n (t : Int) : Nat := (t % 18446744073709551616).toNat
theorem u64n_lt (t : Int) : u64n t < 18446744073709551616 := by unfold u64n; omega
theorem u64n_wrap (t : Int) : IntKind.u64.wrap t = (u64n t : Int) := by
  unfold u64n
  simp [IntKind.wrap, IntKind.bits, IntKind.signed]
  omega
theorem lastB_ge (l : List Bool) (i : Nat) (hi : isN l i = true) : ∀ N, i < N → ((i / 8 : Nat) : Int) ≤ lastB l N := by
  intro N h
  induction N with
  | zero => omega
  | succ N ih =>
    unfold lastB
    split
    · omega
    · rename_i hn
      have : i ≠ N := fun e => hn (e ▸ hi)
      exact ih (by omega)
theorem rd_map (m : Nat) (g : Nat → Int) (j : Nat) (hj : j < m) : rd ((List.range m).map g) (j : Int) = g j := by
  unfold rd
  simp [hj]
theorem set_map (m : Nat) (g h : Nat → Int) (j : Nat) (hj : j < m) (he : ∀ q, q ≠ j → g q = h q) : ((List.range m).map g).set j (h j) = (List.range m).map h := by
  apply List.ext_getElem?
  intro q
  rw [List.getElem?_set]
  by_cases e : j = q
  · subst e; simp [hj]
  · rw [if_neg e]
    by_cases hq : q < m
    · simp [hq, he q (fun e' => e e'.symm)]
    · rw [List.getElem?_eq_none (by simp; omega), List.getElem?_eq_none (by simp; omega)]

def rhead (n : Nat) (l : List Bool) : List UInt8 := Lib.uvarint n ++ (Lib.uvarint (rbytes l).length ++ (rbytes l).map Nat.toUInt8)
theorem rbytes_len (l : List Bool) (hl : l.length ≤ 200) : (rbytes l).length ≤ 200 := by
  have := lastB_bd l l.length
  unfold rbytes
  rw [List.length_map, List.length_range]
  omega
theorem sn_list (xs : List Nat) : strOfNums (xs.map fun x : Nat => ((x : Nat) : Int)) = ⟨(xs.map Nat.toUInt8).toArray⟩ := by
  unfold strOfNums
  rw [List.map_map]
  congr 2
theorem shl_one : ∀ k : Fin 8, shl .u8 1 ((k : Nat) : Int) = ((2 ^ (k : Nat) : Nat) : Int) := by decide +kernel
theorem or_step (l : List Bool) (i : Nat) : Go.bits .or .u8 ((pkU l (i / 8) i : Nat) : Int) (shl .u8 1 ((i % 8 : Nat) : Int)) = ((pkU l (i / 8) i + 2 ^ (i % 8) : Nat) : Int) := by
  have h1 := pkU_lt l (i / 8) i (by omega) (by omega)
  rw [show i - 8 * (i / 8) = i % 8 by omega] at h1
  have h2 := or_bit ⟨i % 8, by omega⟩ ⟨pkU l (i / 8) i, pkU_256 l _ _⟩ h1
  have h3 := shl_one ⟨i % 8, by omega⟩
  simp only at h2 h3
  rw [h3, h2]
theorem head_l1 (n : Nat) (hn : n ≤ 10000) (l : List Bool) (hl : l.length ≤ 200) (m : Nat) (hm : m = (lastB l l.length + 1).toNat) : ∀ d i : Nat, d = l.length - i → i ≤ l.length → ∃ k, spec_CodRowHead.l1 k (n : Int) ((List.range m).map fun j => ((pkU l j i : Nat) : Int)) l (l.length : Int) (i : Int) = some ⟨(rhead n l).toArray⟩ := by
  intro d
  induction d with
  | zero =>
    intro i hd hi
    obtain rfl : i = l.length := by omega
    have er : ((List.range m).map fun j => ((pkU l j l.length : Nat) : Int)) = (rbytes l).map fun x : Nat => ((x : Nat) : Int) := by
      unfold rbytes; rw [List.map_map, hm]; rfl
    rw [er]
    have hr := rbytes_len l hl
    obtain ⟨k1, h1⟩ := varint_some n (by omega)
    obtain ⟨k2, h2⟩ := varint_some (rbytes l).length (by omega)
    refine ⟨k1 + k2 + 1, ?_⟩
    have v1 := varint_up _ _ k2 k1 h1
    have v2 := varint_up _ _ k1 k2 h2
    rw [show k2 + k1 = k1 + k2 by omega] at v2
    rw [spec_CodRowHead.l1, if_neg (by omega), u64n_wrap, u64n_wrap, List.length_map]
    rw [show u64n (n : Int) = n by unfold u64n; omega, show u64n ((rbytes l).length : Int) = (rbytes l).length by unfold u64n; omega, v1, v2]
    simp only [Option.bind_some]
    have l1 := Lib.uvarint_length64 (x := n) (by omega)
    have l2 := Lib.uvarint_length64 (x := (rbytes l).length) (by omega)
    rw [sn_list]
    have s1 : (⟨(Lib.uvarint n).toArray⟩ : ByteArray).size = (Lib.uvarint n).length := by simp [ByteArray.size]
    have s2 : (⟨(Lib.uvarint (rbytes l).length).toArray⟩ : ByteArray).size = (Lib.uvarint (rbytes l).length).length := by simp [ByteArray.size]
    have s3 : (⟨((rbytes l).map Nat.toUInt8).toArray⟩ : ByteArray).size = (rbytes l).length := by simp [ByteArray.size]
    rw [if_pos (by rw [s1, s2]; omega), if_pos (by rw [ByteArray.size_append, s1, s2, s3]; omega)]
    congr 1
    apply ByteArray.ext
    simp [rhead]
  | succ d ih =>
    intro i hd hi
    obtain ⟨k, hk⟩ := ih (i + 1) (by omega) (by omega)
    refine ⟨k + 1, ?_⟩
    have e1 : rdOf false l (i : Int) = isN l i := by unfold rdOf isN; simp
    rw [spec_CodRowHead.l1, if_pos (by omega), if_pos (by omega), if_pos (by omega), e1]
    have ew : wrap64 ((i : Int) + 1) = ((i + 1 : Nat) : Int) := by unfold wrap64; omega
    by_cases hb : isN l i = true
    · rw [if_pos hb]
      have eq : wrap64 (Int.tdiv (i : Int) 8) = ((i / 8 : Nat) : Int) := by
        rw [Int.tdiv_eq_ediv_of_nonneg (by omega)]; unfold wrap64; omega
      have em : Int.tmod (i : Int) 8 = ((i % 8 : Nat) : Int) := by rw [Int.tmod_eq_emod_of_nonneg (by omega)]; omega
      have hj : i / 8 < m := by
        have := lastB_ge l i hb l.length (by omega)
        omega
      rw [eq, em, if_pos (by omega), if_pos (by simp; omega), if_pos (by omega), rd_map m _ (i / 8) hj, or_step, ew]
      rw [show (((i / 8 : Nat) : Int)).toNat = i / 8 by omega]
      have hs := set_map m (fun j => ((pkU l j i : Nat) : Int)) (fun j => ((pkU l j (i + 1) : Nat) : Int)) (i / 8) hj (fun q hq => by show ((pkU l q i : Nat) : Int) = ((pkU l q (i + 1) : Nat) : Int); rw [pkU, if_neg (fun h => hq h.1.symm)])
      have hv : pkU l (i / 8) (i + 1) = pkU l (i / 8) i + 2 ^ (i % 8) := by rw [pkU, if_pos ⟨rfl, hb⟩]
      rw [← hv]
      rw [hs]
      exact hk
    · rw [if_neg hb, ew]
      have ee : ((List.range m).map fun j => ((pkU l j i : Nat) : Int)) = ((List.range m).map fun j => ((pkU l j (i + 1) : Nat) : Int)) := by
        apply List.map_congr_left
        intro j _
        rw [pkU, if_neg (fun h => hb h.2)]
      rw [ee]
      exact hk
theorem head_l0 (n : Nat) (hn : n ≤ 10000) (l : List Bool) (hl : l.length ≤ 200) : ∀ (d i : Nat) (x5 : Int), d = l.length - i → i ≤ l.length → (x5 + 8) / 8 = lastB l i + 1 → -1 ≤ x5 → x5 < (i : Int) → ∃ k, spec_CodRowHead.l0 k (n : Int) l x5 l (l.length : Int) (i : Int) = some ⟨(rhead n l).toArray⟩ := by
  intro d
  induction d with
  | zero =>
    intro i x5 hd hi h1 h2 h3
    obtain rfl : i = l.length := by omega
    have hb := lastB_bd l l.length
    obtain ⟨k, hk⟩ := head_l1 n hn l hl _ rfl l.length 0 (by omega) (by omega)
    refine ⟨k + 1, ?_⟩
    have e1 : wrap64 (Int.tdiv (wrap64 (x5 + 8)) 8) = (((lastB l l.length + 1).toNat : Nat) : Int) := by
      rw [show wrap64 (x5 + 8) = x5 + 8 by unfold wrap64; omega, Int.tdiv_eq_ediv_of_nonneg (by omega), h1]
      unfold wrap64; omega
    rw [spec_CodRowHead.l0, if_neg (by omega), e1, if_pos (by omega), if_pos (by omega)]
    have e2 : List.replicate (((lastB l l.length + 1).toNat : Nat) : Int).toNat (0 : Int) = ((List.range (lastB l l.length + 1).toNat).map fun j => ((pkU l j 0 : Nat) : Int)) := by
      rw [show (((lastB l l.length + 1).toNat : Nat) : Int).toNat = (lastB l l.length + 1).toNat by omega]
      apply List.ext_getElem?
      intro q
      by_cases hq : q < (lastB l l.length + 1).toNat
      · simp [hq, pkU]
      · rw [List.getElem?_eq_none (by simp; omega), List.getElem?_eq_none (by simp; omega)]
    rw [e2]
    exact hk
  | succ d ih =>
    intro i x5 hd hi h1 h2 h3
    have ew : wrap64 ((i : Int) + 1) = ((i + 1 : Nat) : Int) := by unfold wrap64; omega
    have e1 : rdOf false l (i : Int) = isN l i := by unfold rdOf isN; simp
    by_cases hb : isN l i = true
    · obtain ⟨k, hk⟩ := ih (i + 1) (i : Int) (by omega) (by omega) (by rw [lastB, if_pos hb]; omega) (by omega) (by omega)
      exact ⟨k + 1, by rw [spec_CodRowHead.l0, if_pos (by omega), if_pos (by omega), if_pos (by omega), e1, if_pos hb, ew]; exact hk⟩
    · obtain ⟨k, hk⟩ := ih (i + 1) x5 (by omega) (by omega) (by rw [lastB, if_neg hb]; exact h1) (by omega) (by omega)
      exact ⟨k + 1, by rw [spec_CodRowHead.l0, if_pos (by omega), if_pos (by omega), if_pos (by omega), e1, if_neg hb, ew]; exact hk⟩
theorem rowHead_some (n : Nat) (hn : n ≤ 10000) (l : List Bool) (hl : l.length ≤ 200) : ∃ k, spec_CodRowHead.f k (n : Int) l = some ⟨(rhead n l).toArray⟩ := by
  obtain ⟨k, hk⟩ := head_l0 n hn l hl l.length 0 (-1) (by omega) (by omega) (by rw [lastB]; decide) (by omega) (by omega)
  exact ⟨k, hk⟩
theorem few_some (n : Int) (l : List Bool) : laws_codRowFew.f n l = some (decide (0 ≤ n ∧ n ≤ 10000 ∧ (l.length : Int) ≤ 200 ∧ (l.length : Int) ≤ n)) := by
  unfold laws_codRowFew.f
  by_cases h0 : n ≥ 0
  · by_cases h1 : n ≤ 10000
    · by_cases h2 : (l.length : Int) ≤ 200
      · rw [if_pos h0, if_pos h1, if_pos h2]
        congr 1
        exact decide_eq_decide.2 ⟨fun h => ⟨h0, h1, h2, h⟩, fun h => h.2.2.2⟩
      · rw [if_pos h0, if_pos h1, if_neg h2, decide_eq_false (fun h => h2 h.2.2.1)]
    · rw [if_pos h0, if_neg h1, decide_eq_false (fun h => h1 h.2.1)]
  · rw [if_neg h0, decide_eq_false (fun h => h0 h.1)]
end Go.Proofs.YtgdbeiadlgkedaaDoor

/- Contract: the closure that tells whether a field is nil. -/
set_option linter.unusedVariables false
set_option linter.unusedSimpArgs false
namespace Go.Proofs.YtgdbeiadlgkedaaDoor
open Go.RowKit Go.Proofs.YtgdbeiadlgkedaaDoorW.PrintWords Go.Proofs.YtgdbeiadlgkedaaDoorW.PrintLast Go.Proofs.YtgdbeiadlgkedaaDoorW.PrintMore
theorem atB {w : World} {A : Option Addr} {l : List Bool} (h : Kd.C Kd.bool w A l.length l) (i : Nat) (h1 : i < l.length) : ∃ ad, A = some ad ∧ w.cell? (ad.add i) = some (.bool (isN l i)) := by
  obtain ⟨ad, c, e, _, hK, hc0⟩ := Kd.C_get h false (i : Int) (by omega) (by omega)
  have hc : ∀ j u, c[j]? = some u → w.cell? (ad.add (i * 1 + j)) = some u := hc0
  obtain rfl : c = [.bool (isN l i)] := hK
  exact ⟨ad, e, by have := hc 0 _ rfl; simpa using this⟩
theorem nil_any (g : Nat) (A : Option Addr) (c : Nat) (l : List Bool) (i : Nat) (w : World) (hg : w.heap[g]? = some (.cells #[.slice A l.length c] 75 (0, 0))) (hC : Kd.C Kd.bool w A l.length l) (hl : l.length ≤ 200) :
    Calls Tryd.prog 93 #[.int .i64 i, .pointer (some ⟨g, 0, none⟩)] w fun e w' => e = .returned (.bool (isN l i)) ∧ w = w' := by
  have x0 := (blk_cell hg 0).trans (rfl : _ = some (Value.slice A l.length c))
  have q1 : (l.length : Int) ≤ 200 := by omega
  clear hg
  by_cases h : i < l.length
  · obtain ⟨ad, rfl, y0⟩ := atB hC i h
    have HC := Lib.hid hC
    clear hC hl
    go_enter Tryd.func93, Tryd.ntmps93
    go_wp2
    go_ret
    exact ⟨rfl, rfl⟩
  · have HN := Lib.hid (isN_out (l := l) (i := i) (by omega))
    clear hC hl
    rw [HN.out]
    go_enter Tryd.func93, Tryd.ntmps93
    go_wp2
    go_ret
    exact ⟨rfl, rfl⟩
end Go.Proofs.YtgdbeiadlgkedaaDoor

/- Plain: the bytes of the nil fields as the loop makes them. -/
set_option linter.unusedVariables false
set_option linter.unusedSimpArgs false
namespace Go.Proofs.YtgdbeiadlgkedaaDoor
open Go.RowKit
theorem pkU_eq (l : List Bool) (j i : Nat) (h : 8 * j + 8 ≤ i ∨ l.length ≤ i) : pkU l j i = pkU l j l.length := by
  rcases Nat.lt_or_ge i l.length with h1 | h1
  · have h2 : 8 * j + 8 ≤ i := by omega
    rw [pkU_high l j i h2, pkU_high l j l.length (by omega)]
  · exact pkU_end l j i h1
/-- The bytes that are full. -/
def rowB (l : List Bool) (m : Nat) : List UInt8 := (List.range m).map fun j => (pkU l j (8 * j + 8)).toUInt8
theorem rowB_succ (l : List Bool) (m : Nat) : rowB l (m + 1) = rowB l m ++ [(pkU l m (8 * m + 8)).toUInt8] := by unfold rowB; rw [List.range_succ, List.map_append]; rfl
theorem rowB_len (l : List Bool) (m : Nat) : (rowB l m).length = m := by unfold rowB; rw [List.length_map, List.length_range]
theorem row_end (l : List Bool) (n m k : Nat) (hm : m = (n - 1) / 8) (hn : l.length ≤ n) (hk : k = (lastB l n + 1).toNat) : k ≤ m + 1 ∧ (rowB l m ++ [(pkU l m n).toUInt8]).take k = (rbytes l).map Nat.toUInt8 := by
  have hb := lastB_bd l n
  have hk1 : k ≤ m + 1 := by omega
  have he := lastB_end l n hn
  refine ⟨hk1, ?_⟩
  unfold rbytes
  rw [← he, ← hk, List.map_map]
  apply List.ext_getElem?
  intro q
  rw [List.getElem?_take]
  by_cases hq : q < k
  · rw [if_pos hq, List.getElem?_map, List.getElem?_range hq]
    rcases Nat.lt_or_ge q m with h | h
    · rw [List.getElem?_append_left (by rw [rowB_len]; exact h)]
      unfold rowB
      rw [List.getElem?_map, List.getElem?_range h]
      simp only [Option.map_some, Function.comp]
      rw [pkU_eq l q (8 * q + 8) (.inl (Nat.le_refl _))]
    · obtain rfl : q = m := by omega
      rw [List.getElem?_append_right (by rw [rowB_len]; exact Nat.le_refl _), rowB_len, Nat.sub_self]
      simp only [List.getElem?_cons_zero, Option.map_some, Function.comp]
      rw [pkU_eq l q n (.inr hn)]
  · rw [if_neg hq, List.getElem?_eq_none (by simp; omega)]
theorem rbytes_k (l : List Bool) (n k : Nat) (hn : l.length ≤ n) (hk : k = (lastB l n + 1).toNat) : (rbytes l).length = k := by
  unfold rbytes
  rw [List.length_map, List.length_range, ← lastB_end l n hn, ← hk]
end Go.Proofs.YtgdbeiadlgkedaaDoor

/- Contract: a row's header is written. -/
set_option linter.unusedVariables false
set_option linter.unusedSimpArgs false
namespace Go.Proofs.YtgdbeiadlgkedaaDoor
open Go.RowKit Go.Proofs.YtgdbeiadlgkedaaDoorW.PrintWords Go.Proofs.YtgdbeiadlgkedaaDoorW.PrintLast Go.Proofs.YtgdbeiadlgkedaaDoorW.PrintMore
def mkc (c : Nat) : Obj := .cells (madeCells #[.int .u8 0] (c * 1)) 5
theorem mkc_run (c : Nat) (hc : c ≤ 2000) : ∀ W : World, (Instr.makeSlice 29 (.int .i64 0) (.int .i64 (c : Int))).run Tryd.prog W = .ok (.slice (some ⟨W.heap.size, 0, none⟩) 0 c) (W.alloc (mkc c)) := by
  intro W
  obtain ⟨i, hi, hz, hs, hb⟩ := info_parts info_u8
  have h := run_makeSlice (P := Tryd.prog) W 29 5 i _ Tryd.underlying29 hi hz .i64 .i64 (0 : Int) (c : Int) (by omega) (by omega) (by rw [hs]; simp; omega) (by rw [hb]; simp; omega) (by omega)
  rw [hs, show (Value.int .u8 0).cells = #[.int .u8 0] from rfl] at h
  simpa [mkc] using h
theorem mkc_own (W : World) (c base : Nat) (l : List Bool) (hc : c ≤ 2000) (hb : base ≤ W.heap.size) : (W.alloc (mkc c)).ownsRow base 5 1 (.slice (some ⟨W.heap.size, 0, none⟩) 0 c) 0 (Lib.byteCells (rowB l 0)) :=
  World.ownsRow_made W _ c hb (by unfold maxLen; omega) (by rw [size_madeCells])
def CF (gC : Nat) : Value := .func (.func 93) #[] #[.pointer (some ⟨gC, 0, none⟩)]
/-- The closure's list, apart from the buffer. -/
def NB (b gC : Nat) (A : Option Addr) (cA : Nat) (l : List Bool) (w : World) : Prop :=
  w.heap[gC]? = some (.cells #[.slice A l.length cA] 75 (0, 0)) ∧ gC ≠ b ∧ ∀ i, i < l.length → ∃ ad, A = some ad ∧ ad.block ≠ b ∧ w.cell? (ad.add i) = some (.bool (isN l i))
theorem NB.kept {b g gC : Nat} {A : Option Addr} {cA : Nat} {l : List Bool} {w w' : World} (h : NB b gC A cA l w) (hg : w.heap.size ≤ g) (hk : Kp b g w w') : NB b gC A cA l w' := by
  obtain ⟨h1, h2, h3⟩ := h
  have hlt := blk_lt h1
  refine ⟨(hk.2.2.2.2 gC hlt h2 (by omega)).trans h1, h2, fun i hi => ?_⟩
  obtain ⟨ad, e, hb, hc⟩ := h3 i hi
  have hl : ad.block < w.heap.size := by have := World.block_lt_of_cell? _ _ hc; rwa [Go.ChangeShapes.block_add] at this
  exact ⟨ad, e, hb, (World.cell?_of_block (a := ad.add i) (by rw [Go.ChangeShapes.block_add]; exact hk.2.2.2.2 ad.block hl hb (by omega))).trans hc⟩
theorem NB.below {b gC : Nat} {A : Option Addr} {cA : Nat} {l : List Bool} {w w' : World} (h : NB b gC A cA l w) (hb : Below w.heap.size w w') : NB b gC A cA l w' := h.kept (g := w.heap.size) (Nat.le_refl _) (Kp.below hb)
theorem nil_nb (b g : Nat) (A : Option Addr) (c : Nat) (l : List Bool) (i : Nat) (w : World) (hN : NB b g A c l w) (hl : l.length ≤ 200) :
    Calls Tryd.prog 93 #[.int .i64 i, .pointer (some ⟨g, 0, none⟩)] w fun e w' => e = .returned (.bool (isN l i)) ∧ w = w' := by
  obtain ⟨hg, _, hC⟩ := hN
  have x0 := (blk_cell hg 0).trans (rfl : _ = some (Value.slice A l.length c))
  have q1 : (l.length : Int) ≤ 200 := by omega
  clear hg
  by_cases h : i < l.length
  · obtain ⟨ad, rfl, _, y0⟩ := hC i h
    clear hC hl
    go_enter Tryd.func93, Tryd.ntmps93
    go_wp2
    go_ret
    exact ⟨rfl, rfl⟩
  · have HN := Lib.hid (isN_out (l := l) (i := i) (by omega))
    clear hC hl
    rw [HN.out]
    go_enter Tryd.func93, Tryd.ntmps93
    go_wp2
    go_ret
    exact ⟨rfl, rfl⟩
theorem row_mod (i m : Nat) (hm : i % 8 = m) : m < 8 ∧ (i : Int).tmod 8 = (m : Int) ∧ (m : Int) < 8 := by
  have h7 : m < 8 := by omega
  exact ⟨h7, by rw [← hm]; exact (Int.ofNat_tmod i 8).symm, by omega⟩
theorem row_ne {i : Nat} (h : ¬ i = 0) : ((i : Int) != 0) = true := bne_iff_ne.2 (by omega)
theorem row_ne2 {i m : Nat} (h : ¬ i = 0) (h0 : ¬ (i ≠ 0 ∧ i % 8 = 0)) (hm : i % 8 = m) : ((m : Int) == 0) = false := beq_eq_false_iff_ne.2 (by omega)
theorem row_step (l : List Bool) (i : Nat) : pkU l (i / 8) (i + 1) = pkU l (i / 8) i + (if isN l i = true then 2 ^ (i % 8) else 0) := by
  rw [pkU]
  by_cases h : isN l i = true
  · rw [if_pos ⟨rfl, h⟩, if_pos h]
  · rw [if_neg (fun e => h e.2), if_neg h]; rfl
theorem row_eq {i : Nat} (h : i = 0) : ((i : Int) != 0) = false := by subst h; rfl
theorem row_jn {i j n gk : Nat} (h : j = (i - 1) / 8) (hk : gk + i = n) (hn : (n : Int) ≤ 10000) : j + 1 ≤ 10000 := by omega
theorem row_app {l : List Bool} {i j cur : Nat} (hj : j = (i - 1) / 8) (hc : cur = pkU l j i) (h0 : i ≠ 0) (hm : i % 8 = 0) : rowB l (j + 1) = rowB l j ++ [cur.toUInt8] := by
  have e : i = 8 * j + 8 := by omega
  rw [rowB_succ, hc, ← e]
theorem row_end0 {l : List Bool} {i j cur n gk : Nat} {last : Int} (hj : j = (i - 1) / 8) (hc : cur = pkU l j i) (ha : last = lastB l i) (hk : gk + i = n) (hlt : i < n) (h0 : ¬ (i ≠ 0 ∧ i % 8 = 0)) (hx : isN l i = false) :
    gk - 1 < gk ∧ gk - 1 + (i + 1) = n ∧ j = (i + 1 - 1) / 8 ∧ cur = pkU l j (i + 1) ∧ last = lastB l (i + 1) := by
  have hj2 : j = i / 8 := by omega
  refine ⟨by omega, by omega, by omega, ?_, ?_⟩
  · rw [hc, hj2, row_step, hx]; rfl
  · rw [ha, lastB, hx]; rfl
theorem row_end1 {l : List Bool} {i j cur n gk m : Nat} {last : Int} (hj : j = (i - 1) / 8) (hc : cur = pkU l j i) (ha : last = lastB l i) (hm : i % 8 = m) (hk : gk + i = n) (hlt : i < n) (h0 : ¬ (i ≠ 0 ∧ i % 8 = 0)) (hx : isN l i = true) :
    gk - 1 < gk ∧ gk - 1 + (i + 1) = n ∧ j = (i + 1 - 1) / 8 ∧ cur + 2 ^ m = pkU l j (i + 1) ∧ (j : Int) = lastB l (i + 1) := by
  have hj2 : j = i / 8 := by omega
  refine ⟨by omega, by omega, by omega, ?_, ?_⟩
  · rw [hc, hj2, row_step, hx, if_pos rfl, hm]
  · rw [lastB, hx, if_pos rfl, hj2]
theorem row_end2 {l : List Bool} {i j n gk : Nat} (hj : j = (i - 1) / 8) (hk : gk + i = n) (hlt : i < n) (h0 : i ≠ 0) (hm : i % 8 = 0) (hx : isN l i = true) :
    gk - 1 < gk ∧ gk - 1 + (i + 1) = n ∧ j + 1 = (i + 1 - 1) / 8 ∧ 1 = pkU l (j + 1) (i + 1) ∧ ((j + 1 : Nat) : Int) = lastB l (i + 1) := by
  have hj2 : j + 1 = i / 8 := by omega
  refine ⟨by omega, by omega, by omega, ?_, ?_⟩
  · rw [hj2, row_step, hx, if_pos rfl, pkU_low l (i / 8) i (by omega), hm]
  · rw [lastB, hx, if_pos rfl, hj2]
theorem row_end3 {l : List Bool} {i j n gk : Nat} {last : Int} (hj : j = (i - 1) / 8) (ha : last = lastB l i) (hk : gk + i = n) (hlt : i < n) (h0 : i ≠ 0) (hm : i % 8 = 0) (hx : isN l i = false) :
    gk - 1 < gk ∧ gk - 1 + (i + 1) = n ∧ j + 1 = (i + 1 - 1) / 8 ∧ 0 = pkU l (j + 1) (i + 1) ∧ last = lastB l (i + 1) := by
  have hj2 : j + 1 = i / 8 := by omega
  refine ⟨by omega, by omega, by omega, ?_, ?_⟩
  · rw [hj2, row_step, hx, pkU_low l (i / 8) i (by omega)]; rfl
  · rw [ha, lastB, hx]; rfl
theorem row_or {l : List Bool} {i j cur m p : Nat} (hj : j = (i - 1) / 8) (hc : cur = pkU l j i) (hm : i % 8 = m) (h0 : ¬ (i ≠ 0 ∧ i % 8 = 0)) (k : Fin 8) (hk : k = ⟨m, by omega⟩) (hp : p = 2 ^ (k : Nat)) : Go.bits .or .u8 (cur : Int) (p : Int) = ((cur + p : Nat) : Int) := by
  have hj2 : j = i / 8 := by omega
  have h1 := pkU_lt l j i (by omega) (by omega)
  rw [← hc, show i - 8 * j = m by omega] at h1
  have h3 : cur < 256 := by rw [hc]; exact pkU_256 l j i
  subst hk
  have h2 := or_bit ⟨m, by omega⟩ ⟨cur, h3⟩ h1
  subst hp
  exact h2
theorem row_pow : ∀ k : Fin 8, ((2 : Int) ^ (k : Nat)) % 256 = ((2 ^ (k : Nat) : Nat) : Int) := by decide
theorem row_or2 {l : List Bool} {i j cur m : Nat} (hj : j = (i - 1) / 8) (hc : cur = pkU l j i) (hm : i % 8 = m) (h0 : ¬ (i ≠ 0 ∧ i % 8 = 0)) (h7 : m < 8) : Go.bits .or .u8 (cur : Int) ((2 : Int) ^ m % 256) = ((cur + 2 ^ m : Nat) : Int) := by
  have e := row_pow ⟨m, h7⟩
  simp only at e
  rw [e]
  exact row_or hj hc hm h0 ⟨m, h7⟩ rfl rfl
theorem row_form {w : World} {base m : Nat} {v : Value} {xs : List Value} (h : w.ownsRow base 5 1 v (m + 1) xs) : ∃ g cap, v = .slice (some ⟨g, 0, none⟩) (m + 1) cap := by
  rcases h.2 with ⟨_, h0⟩ | ⟨g, cap, _, e, _⟩
  · omega
  · exact ⟨g, cap, e⟩
theorem row_in {i n gk : Nat} (hk : gk + i = n) (hlt : ¬ i < n) : n = i := by omega
theorem row_last {l : List Bool} {n k : Nat} {last : Int} (ha : last = lastB l n) (hk : k = (lastB l n + 1).toNat) : last + 1 = (k : Int) := by have := lastB_bd l n; omega
theorem row_kle {j k : Nat} (h : k ≤ j + 1) (hj : j + 1 ≤ 10000) : (k : Int) ≤ 10000 := by omega
theorem row_caps {w : World} {base j k g cap : Nat} {xs : List Value} (h : w.ownsRow base 5 1 (.slice (some ⟨g, 0, none⟩) (j + 1) cap) (j + 1) xs) (hk : k ≤ j + 1) : k ≤ cap ∧ (k : Int) ≤ (cap : Int) ∧ base ≤ g := by
  rcases h.2 with ⟨h0, _⟩ | ⟨g', cap', _, e, hb, _, hn, _⟩
  · cases h0
  · injection e with e1 e2 e3
    injection e1 with e1
    injection e1 with e1
    subst e3 e1
    exact ⟨by omega, by omega, hb⟩
theorem row_lt {b g : Nat} {l : List UInt8} {w1 w2 : World} (h : BR b g l w1) (hb : Below w1.heap.size w1 w2) : g < w2.heap.size := by
  obtain ⟨_, _, _, h2, _⟩ := h
  exact Nat.lt_of_lt_of_le (blk_lt h2) hb.size
theorem row_len1 {l : List Bool} (n k : Nat) (hl : l.length ≤ 200) (hk : (rbytes l).length = k) : (Lib.uvarint (u64of (n : Int)) ++ Lib.uvarint (u64of (k : Int))).length < 64 := by
  have h1 := Lib.uvarint_length64 (u64of_lt (n : Int))
  have h2 := Lib.uvarint_length64 (u64of_lt (k : Int))
  rw [List.length_append]; omega
theorem rbytes_26 (l : List Bool) (hl : l.length ≤ 200) : (rbytes l).length ≤ 25 := by
  have := lastB_bd l l.length
  unfold rbytes
  rw [List.length_map, List.length_range]
  omega
theorem row_len2 {l : List Bool} (n k : Nat) (hl : l.length ≤ 200) (hk : (rbytes l).length = k) : (Lib.uvarint (u64of (n : Int)) ++ Lib.uvarint (u64of (k : Int))).length + k ≤ 64 := by
  have h1 := Lib.uvarint_length64 (u64of_lt (n : Int))
  have h2 := Lib.uvarint_length64 (u64of_lt (k : Int))
  have h3 := rbytes_26 l hl
  rw [List.length_append]; omega
theorem row_ne1 {b g g1 : Nat} {w w1 : World} (hb : b < w.heap.size) (hk : Kp b g w w1) (hg : w1.heap.size ≤ g1) : (⟨g1, 0, none⟩ : Addr).block ≠ b := by
  have := hk.2.2.2.1
  show g1 ≠ b
  omega
theorem row_ne3 {b g g1 : Nat} {l : List UInt8} {w1 : World} (h : BR b g l w1) (hg : w1.heap.size ≤ g1) : (⟨g1, 0, none⟩ : Addr).block ≠ g := by
  obtain ⟨_, _, _, h2, _⟩ := h
  have := blk_lt h2
  show g1 ≠ g
  omega
theorem row_glt {w : World} {base j g cap : Nat} {xs : List Value} (h : w.ownsRow base 5 1 (.slice (some ⟨g, 0, none⟩) (j + 1) cap) (j + 1) xs) : (⟨g, 0, none⟩ : Addr).block < w.heap.size := (h.lt g rfl).2
theorem row_at {w : World} {base j k g cap : Nat} {s l2 : List UInt8} (h : w.ownsRow base 5 1 (.slice (some ⟨g, 0, none⟩) (j + 1) cap) (j + 1) (Lib.byteCells s)) (hl : s.take k = l2) : At w ⟨g, 0, none⟩ l2 := fun q x hq => by
  rw [← hl, List.getElem?_take] at hq
  split at hq
  · exact h.cells (g := g) rfl q _ (by rw [Lib.byteCells, List.getElem?_map, hq]; rfl)
  · cases hq
theorem row_len0 (t : Int) : (Lib.uvarint (u64of t)).length + 10 ≤ 64 := by have := Lib.uvarint_length64 (u64of_lt t); omega
theorem row_BR {b g : Nat} {l : List UInt8} {w1 w2 : World} (h : BR b g l w1) (hb : Below w1.heap.size w1 w2) : BR b g l w2 := h.below hb
theorem row_done {b g n k : Nat} {l : List Bool} {w w1 w2 w3 w4 : World} (hk : (rbytes l).length = k) (hg : w.heap.size ≤ g) (h1 : Kp b g w w1) (h2 : Below w1.heap.size w1 w2) (h3 : Kp b g w2 w3) (h4 : BR b g ((Lib.uvarint (u64of (n : Int)) ++ Lib.uvarint (u64of (k : Int))) ++ (rbytes l).map Nat.toUInt8) w4 ∧ Kp b g w3 w4) (hn : n ≤ 10000) (hl : l.length ≤ 200) :
    ∃ g, w.heap.size ≤ g ∧ BR b g (rhead n l) w4 ∧ Kp b g w w4 := by
  refine ⟨g, hg, ?_, ((h1.trans (Kp.below h2)).trans h3).trans h4.2⟩
  have e := h4.1
  have := rbytes_26 l hl
  rw [u64of_nat n (by omega), u64of_nat k (by omega), List.append_assoc] at e
  unfold rhead
  rw [hk]
  exact e
set_option maxHeartbeats 8000000 in
set_option maxRecDepth 100000 in
theorem writeRow_any (b gC : Nat) (A : Option Addr) (cA n : Nat) (l : List Bool) (w : World) (hn : n ≤ 10000) (hl : l.length ≤ 200) (hln : l.length ≤ n) (hb : w.heap[b]? = some (.cells #[.slice none 0 0, .int .i64 0, .int .i8 0] 129 (0, 0)))
    (hN : NB b gC A cA l w) :
    Calls Tryd.prog 92 #[.int .i64 n, CF gC, bfI b] w fun e w' => e = .returned .nilIface ∧ ∃ g, w.heap.size ≤ g ∧ BR b g (rhead n l) w' ∧ Kp b g w w' := by
  unfold CF
  obtain ⟨q, hq⟩ : ∃ q, Hid (n / 8 = q) := ⟨_, Lib.hid rfl⟩
  have a1 : (n : Int).tdiv 8 = (q : Int) := by rw [← hq.out]; exact (Int.ofNat_tdiv n 8).symm
  have a3 : wrap64 (q : Int) = (q : Int) := by have := hq.out; unfold wrap64; omega
  have q1 : (q : Int) ≤ 1250 := by have := hq.out; omega
  obtain ⟨c, hc⟩ : ∃ c, Hid (q + 1 = c) := ⟨_, Lib.hid rfl⟩
  have a4 : (q : Int) + 1 = (c : Int) := by have := hc.out; omega
  have HCL := Lib.hid (show c ≤ 2000 by have := hc.out; omega)
  have hmk := mkc_run c HCL.out
  have q2 : (n : Int) ≤ 10000 := by omega
  obtain ⟨i0, hi, hz0, hz1, hz2⟩ := info_parts info_u8
  have H0 := Lib.hid (encI_first b (n : Int) w hb)
  have HN := Lib.hid hN
  have HL := Lib.hid (And.intro hl hln)
  have HN4 := Lib.hid hn
  have HBL := Lib.hid (blk_lt hb)
  clear hb hN hl hln hn
  go_enter Tryd.func92, Tryd.ntmps92
  go_wp2_with (go_at_call 82; go_loud (refine H0.out.mono ?_; rintro e_ w1 ⟨rfl, g, h1, h2, h3⟩; have H1 := Lib.hid (And.intro h1 (And.intro h2 h3)); have HN1 := Lib.hid (HN.out.kept h1 h3); clear h1 h2 h3))
  go_loopg [8, 9, 10, 11] n (fun kq v8 v9 v10 v11 wr => ∃ (i j cur : Nat) (last : Int) (g0 cap : Nat), kq + i = n ∧ v8 = .int .u8 (cur : Int) ∧ v9 = .int .i64 last ∧ v11 = .int .i64 (i : Int) ∧ v10 = .slice (some ⟨g0, 0, none⟩) j cap ∧ Hid (j = (i - 1) / 8) ∧ Hid (cur = pkU l j i) ∧ Hid (last = lastB l i) ∧ Hid (wr.ownsRow w1.heap.size 5 1 (.slice (some ⟨g0, 0, none⟩) j cap) j (Lib.byteCells (rowB l j))) ∧ Hid (Below w1.heap.size w1 wr))
  case atStart => exact ⟨0, 0, 0, -1, w1.heap.size, c, rfl, rfl, rfl, rfl, rfl, Lib.hid rfl, Lib.hid rfl, Lib.hid rfl, Lib.hid (mkc_own w1 c _ l HCL.out (Nat.le_refl _)), Lib.hid ((Below.refl _ w1).alloc (Nat.le_refl _) _)⟩
  case round =>
    clear a1 a3 a4 hmk q1 H0 HN
    obtain ⟨i, j, cur, last, g0, cap, hki, rfl, rfl, rfl, rfl, HJ, HC, HA, HO, HB⟩ := hrel
    have HNr := Lib.hid (HN1.out.below HB.out)
    have HP := Lib.hid (HC.out ▸ pkU_256 l j i)
    have HJn := Lib.hid (row_jn HJ.out hki q2)
    by_cases hlt : i < n
    · obtain ⟨m, HM⟩ : ∃ m, Hid (i % 8 = m) := ⟨_, Lib.hid rfl⟩
      obtain ⟨hm7, b1, b4⟩ := row_mod i m HM.out
      by_cases h0 : i ≠ 0 ∧ i % 8 = 0
      · obtain ⟨hi0, hm0⟩ := h0
        obtain rfl : m = 0 := HM.out.symm.trans hm0
        replace b1 : (i : Int).tmod 8 = 0 := b1
        clear b4
        have c1 : ((i : Int) != 0) = true := row_ne hi0
        have HAP := Lib.hid (row_app HJ.out HC.out hi0 hm0)
        have HPB := Lib.hid (show Lib.byteCells (rowB l j) ++ [Value.int .u8 (cur : Int)] = Lib.byteCells (rowB l (j + 1)) by rw [HAP.out, Lib.byteCells_snoc _ HP.out])
        by_cases hx : isN l i = true
        · have HX := Lib.hid (row_end2 (gk := gk) HJ.out hki hlt hi0 hm0 hx)
          have b8 : bits .or .u8 0 1 = 1 := by decide
          clear hi0 hm0 hki
          go_wp2_with (first | (at_builtin; go_loud (refine wpList_append_own _ rfl _ _ 29 rfl w1.heap.size 5 i0 (.int .u8 0) 1 1 Tryd.underlying29 hi hz0 hz1 hz2 rfl (by decide) _ j (Lib.byteCells (rowB l j)) rfl (HO.out.alloc _) ⟨wr.heap.size, 0, none⟩ 1 1 [.int .u8 (cur : Int)] rfl rfl ?c1 ?c2 ?c3 ?c4 ?c5 ?_; (case c1 => exact cell_one_new _ _ _); (case c2 => intro u hu; simp at hu; subst hu; rfl); (case c3 => have := HJn.out; unfold maxLen; omega); (case c4 => have := HJn.out; omega); (case c5 => exact Nat.le_trans HB.out.size (below_alloc (Below.refl wr.heap.size wr) _).size); intro v' w2 hown' hgrow _; have HB1 := Lib.hid (Below.grown (HB.out.alloc HB.out.size _) hgrow (Nat.le_trans HB.out.size (below_alloc (Below.refl wr.heap.size wr) _).size) (fun k hk => (HO.out.lt k hk).1)); rw [HPB.out] at hown'; obtain ⟨g1, cap1, rfl⟩ := row_form hown'; have HO1 := Lib.hid hown'; have HN2 := Lib.hid (HN1.out.below HB1.out); clear hown' hgrow)) | (go_at_call 93; (with_reducible refine (nil_nb b gC A cA l i _ HN2.out HL.out.1).mono ?_); rintro e_ w3 ⟨rfl, rfl⟩; rw [hx]))
          go_roundg (gk - 1)
          case measure => exact HX.out.1
          case rel => exact ⟨i + 1, j + 1, 1, ((j + 1 : Nat) : Int), g1, cap1, HX.out.2.1, rfl, rfl, by first | rfl | go_num, rfl, Lib.hid HX.out.2.2.1, Lib.hid HX.out.2.2.2.1, Lib.hid HX.out.2.2.2.2, HO1, HB1⟩
        · rw [Bool.not_eq_true] at hx
          have HX := Lib.hid (row_end3 (gk := gk) HJ.out HA.out hki hlt hi0 hm0 hx)
          clear hi0 hm0 hki
          go_wp2_with (first | (at_builtin; go_loud (refine wpList_append_own _ rfl _ _ 29 rfl w1.heap.size 5 i0 (.int .u8 0) 1 1 Tryd.underlying29 hi hz0 hz1 hz2 rfl (by decide) _ j (Lib.byteCells (rowB l j)) rfl (HO.out.alloc _) ⟨wr.heap.size, 0, none⟩ 1 1 [.int .u8 (cur : Int)] rfl rfl ?c1 ?c2 ?c3 ?c4 ?c5 ?_; (case c1 => exact cell_one_new _ _ _); (case c2 => intro u hu; simp at hu; subst hu; rfl); (case c3 => have := HJn.out; unfold maxLen; omega); (case c4 => have := HJn.out; omega); (case c5 => exact Nat.le_trans HB.out.size (below_alloc (Below.refl wr.heap.size wr) _).size); intro v' w2 hown' hgrow _; have HB1 := Lib.hid (Below.grown (HB.out.alloc HB.out.size _) hgrow (Nat.le_trans HB.out.size (below_alloc (Below.refl wr.heap.size wr) _).size) (fun k hk => (HO.out.lt k hk).1)); rw [HPB.out] at hown'; obtain ⟨g1, cap1, rfl⟩ := row_form hown'; have HO1 := Lib.hid hown'; have HN2 := Lib.hid (HN1.out.below HB1.out); clear hown' hgrow)) | (go_at_call 93; (with_reducible refine (nil_nb b gC A cA l i _ HN2.out HL.out.1).mono ?_); rintro e_ w3 ⟨rfl, rfl⟩; rw [hx]))
          go_roundg (gk - 1)
          case measure => exact HX.out.1
          case rel => exact ⟨i + 1, j + 1, 0, last, g1, cap1, HX.out.2.1, rfl, rfl, by first | rfl | go_num, rfl, Lib.hid HX.out.2.2.1, Lib.hid HX.out.2.2.2.1, Lib.hid HX.out.2.2.2.2, HO1, HB1⟩
      · have hnoapp := h0
        by_cases hi0 : i = 0
        · obtain rfl : m = 0 := HM.out.symm.trans (by rw [hi0])
          replace b1 : (i : Int).tmod 8 = 0 := b1
          clear b4
          have c1 : ((i : Int) != 0) = false := row_eq hi0
          clear hi0 h0
          by_cases hx : isN l i = true
          · skip
            have HX := Lib.hid (row_end1 (gk := gk) (m := 0) HJ.out HC.out HA.out HM.out hki hlt hnoapp hx)
            have b8 : bits .or .u8 (cur : Int) 1 = ((cur + 1 : Nat) : Int) := row_or (p := 1) HJ.out HC.out HM.out hnoapp ⟨0, by decide⟩ rfl rfl
            obtain ⟨V, hV⟩ : ∃ V, Hid (cur + 1 = V) := ⟨_, Lib.hid rfl⟩
            rw [hV.out] at b8
            rw [show cur + 2 ^ 0 = V from hV.out] at HX
            clear hnoapp hki
            go_wp2_with (go_at_call 93; (with_reducible refine (nil_nb b gC A cA l i _ HNr.out HL.out.1).mono ?_); rintro e_ w3 ⟨rfl, rfl⟩; rw [hx])
            go_roundg (gk - 1)
            case measure => exact HX.out.1
            case rel => exact ⟨i + 1, j, V, (j : Int), g0, cap, HX.out.2.1, rfl, rfl, by first | rfl | go_num, rfl, Lib.hid HX.out.2.2.1, Lib.hid HX.out.2.2.2.1, Lib.hid HX.out.2.2.2.2, HO, HB⟩
          · rw [Bool.not_eq_true] at hx
            have HX := Lib.hid (row_end0 (gk := gk) HJ.out HC.out HA.out hki hlt hnoapp hx)
            clear hnoapp hki
            go_wp2_with (go_at_call 93; (with_reducible refine (nil_nb b gC A cA l i _ HNr.out HL.out.1).mono ?_); rintro e_ w3 ⟨rfl, rfl⟩; rw [hx])
            go_roundg (gk - 1)
            case measure => exact HX.out.1
            case rel => exact ⟨i + 1, j, cur, last, g0, cap, HX.out.2.1, rfl, rfl, by first | rfl | go_num, rfl, Lib.hid HX.out.2.2.1, Lib.hid HX.out.2.2.2.1, Lib.hid HX.out.2.2.2.2, HO, HB⟩
        · have c1 : ((i : Int) != 0) = true := row_ne hi0
          have c2 : ((m : Int) == 0) = false := row_ne2 hi0 h0 HM.out
          clear hi0 h0
          by_cases hx : isN l i = true
          · have HX := Lib.hid (row_end1 (gk := gk) (m := m) HJ.out HC.out HA.out HM.out hki hlt hnoapp hx)
            have b8 := row_or2 HJ.out HC.out HM.out hnoapp hm7
            obtain ⟨V, hV⟩ : ∃ V, Hid (cur + 2 ^ m = V) := ⟨_, Lib.hid rfl⟩
            rw [hV.out] at b8 HX
            clear hnoapp hki
            go_wp2_with (go_at_call 93; (with_reducible refine (nil_nb b gC A cA l i _ HNr.out HL.out.1).mono ?_); rintro e_ w3 ⟨rfl, rfl⟩; rw [hx])
            go_roundg (gk - 1)
            case measure => exact HX.out.1
            case rel => exact ⟨i + 1, j, V, (j : Int), g0, cap, HX.out.2.1, rfl, rfl, by first | rfl | go_num, rfl, Lib.hid HX.out.2.2.1, Lib.hid HX.out.2.2.2.1, Lib.hid HX.out.2.2.2.2, HO, HB⟩
          · rw [Bool.not_eq_true] at hx
            have HX := Lib.hid (row_end0 (gk := gk) HJ.out HC.out HA.out hki hlt hnoapp hx)
            clear hnoapp hki
            go_wp2_with (go_at_call 93; (with_reducible refine (nil_nb b gC A cA l i _ HNr.out HL.out.1).mono ?_); rintro e_ w3 ⟨rfl, rfl⟩; rw [hx])
            go_roundg (gk - 1)
            case measure => exact HX.out.1
            case rel => exact ⟨i + 1, j, cur, last, g0, cap, HX.out.2.1, rfl, rfl, by first | rfl | go_num, rfl, Lib.hid HX.out.2.2.1, Lib.hid HX.out.2.2.2.1, Lib.hid HX.out.2.2.2.2, HO, HB⟩
    · have hin : n = i := row_in hki hlt
      subst hin
      obtain ⟨k, hk⟩ : ∃ k, Hid (k = (lastB l n + 1).toNat) := ⟨_, Lib.hid rfl⟩
      have HRE := Lib.hid (row_end l n j k HJ.out HL.out.2 hk.out)
      have HK := Lib.hid (rbytes_k l n k HL.out.2 hk.out)
      have ql : last + 1 = (k : Int) := row_last HA.out hk.out
      have qk : (k : Int) ≤ 10000 := row_kle HRE.out.1 HJn.out
      have HPB := Lib.hid (show Lib.byteCells (rowB l j) ++ [Value.int .u8 (cur : Int)] = Lib.byteCells (rowB l j ++ [(pkU l j n).toUInt8]) by rw [Lib.byteCells_snoc _ (pkU_256 l j n), HC.out])
      clear hki
      go_wp2_with (first
        | (at_builtin; go_loud (refine wpList_append_own _ rfl _ _ 29 rfl w1.heap.size 5 i0 (.int .u8 0) 1 1 Tryd.underlying29 hi hz0 hz1 hz2 rfl (by decide) _ j (Lib.byteCells (rowB l j)) rfl (HO.out.alloc _) ⟨wr.heap.size, 0, none⟩ 1 1 [.int .u8 (cur : Int)] rfl rfl ?c1 ?c2 ?c3 ?c4 ?c5 ?_; (case c1 => exact cell_one_new _ _ _); (case c2 => intro u hu; simp at hu; subst hu; rfl); (case c3 => have := HJn.out; unfold maxLen; omega); (case c4 => have := HJn.out; omega); (case c5 => exact Nat.le_trans HB.out.size (below_alloc (Below.refl wr.heap.size wr) _).size); intro v' w2 hown' hgrow _; have HB1 := Lib.hid (Below.grown (HB.out.alloc HB.out.size _) hgrow (Nat.le_trans HB.out.size (below_alloc (Below.refl wr.heap.size wr) _).size) (fun k hk => (HO.out.lt k hk).1)); rw [HPB.out] at hown'; obtain ⟨g1, cap1, rfl⟩ := row_form hown'; obtain ⟨hc1, hc2, hg1⟩ := row_caps hown' HRE.out.1; have HO1 := Lib.hid (And.intro hown' hg1); clear hown' hgrow hg1))
        | (go_at_call 82; go_loud (refine (encI_room b g _ (k : Int) w2 (row_BR H1.out.2.1 HB1.out) (row_len0 _) (row_lt H1.out.2.1 HB1.out) (Nat.lt_of_lt_of_le HBL.out (Nat.le_trans H1.out.2.2.2.2.2.1 HB1.out.size))).mono ?_; rintro e_ w4 ⟨rfl, h1, h2⟩; have H4 := Lib.hid (And.intro h1 h2); clear h1 h2))
        | (go_at_call 102; (with_reducible refine (wrU_room b g _ ((rbytes l).map Nat.toUInt8) ⟨g1, 0, none⟩ k cap1 w4 H4.out.1 (by rw [List.length_map, HK.out]) ?l1 ?l2 ?l3 ?l4 ?l5).mono ?_); (case l1 => exact row_len1 n k HL.out.1 HK.out); (case l2 => exact row_len2 n k HL.out.1 HK.out); (case l3 => exact row_ne1 HBL.out H1.out.2.2 HO1.out.2); (case l4 => exact row_ne3 H1.out.2.1 HO1.out.2); (case l5 => exact H4.out.2.at (row_at HO1.out.1 HRE.out.2) (row_glt HO1.out.1) (row_ne1 HBL.out H1.out.2.2 HO1.out.2) (row_ne3 H1.out.2.1 HO1.out.2)); rintro e_ w5 ⟨rfl, h1, h2⟩; have H5 := Lib.hid (And.intro h1 h2); clear h1 h2))
      go_ret
      exact ⟨rfl, row_done HK.out H1.out.1 H1.out.2.2 HB1.out H4.out.2 H5.out HN4.out HL.out.1⟩
end Go.Proofs.YtgdbeiadlgkedaaDoor

/- Contracts: impl.RowHeader; the law of rows' headers. -/
set_option linter.unusedVariables false
set_option linter.unusedSimpArgs false
namespace Go.Proofs.YtgdbeiadlgkedaaDoor
open Go.RowKit Go.Proofs.YtgdbeiadlgkedaaDoorW.PrintWords Go.Proofs.YtgdbeiadlgkedaaDoorW.PrintLast Go.Proofs.YtgdbeiadlgkedaaDoorW.PrintMore
theorem BR.bf {b g B : Nat} {l : List UInt8} {w : World} (h : BR b g l w) (hb : B ≤ b) (hg : B ≤ g) (hl : l.length ≤ 64) : Bf B b l w := by
  obtain ⟨lr, cur, h1, h2, h3, h4, h5⟩ := h
  have e : (Lib.byteCells l).length = l.length := Lib.byteCells_length l
  refine ⟨hb, .slice (some ⟨g, 0, none⟩) l.length 64, lr, h1, ⟨by omega, .inr ⟨g, 64, cur, by rw [e], hg, h2, by omega, by unfold maxLen; omega, by omega, by rw [e, Nat.mul_one]; exact h4⟩⟩, ?_⟩
  intro e2
  simp [Value.ownBlock] at e2
  exact h5 e2
theorem rhead_len (n : Nat) (l : List Bool) (hn : n ≤ 10000) (hl : l.length ≤ 200) : (rhead n l).length ≤ 64 := by
  have h1 := Lib.uvarint_length64 (x := n) (by omega)
  have h3 := rbytes_26 l hl
  have h2 := Lib.uvarint_length64 (x := (rbytes l).length) (by omega)
  unfold rhead
  rw [List.length_append, List.length_append, List.length_map]
  omega
set_option maxHeartbeats 4000000 in
set_option maxRecDepth 100000 in
theorem implRow_any (A : Option Addr) (cA n : Nat) (l : List Bool) (w : World) (hn : n ≤ 10000) (hl : l.length ≤ 200) (hln : l.length ≤ n) (hC : Kd.C Kd.bool w A l.length l) :
    Calls Tryd.prog 44 #[.int .i64 n, .slice A l.length cA] w fun e w' => e = .returned (.tuple #[.string ⟨(rhead n l).toArray⟩, .string ⟨#[]⟩]) ∧ Below w.heap.size w w' := by
  obtain ⟨W, hW⟩ : ∃ W, W = (w.alloc (.cells #[.slice A l.length cA] 75)).alloc (.cells #[.slice none 0 0, .int .i64 0, .int .i8 0] 129) := ⟨_, rfl⟩
  have hBW : Below w.heap.size w W := by rw [hW]; exact below_alloc (below_alloc (Below.refl _ w) _) _
  have hsz : W.heap.size = w.heap.size + 2 := by rw [hW]; simp
  have hN : NB (w.heap.size + 1) w.heap.size A cA l W := by
    refine ⟨?_, by omega, fun i hi => ?_⟩
    · rw [hW]; exact blk_alloc (heap_alloc_new w _) _
    · obtain ⟨ad, e, hc⟩ := atB hC i hi
      have hlt := World.block_lt_of_cell? _ _ hc
      rw [Go.ChangeShapes.block_add] at hlt
      exact ⟨ad, e, by omega, (World.cell?_of_block (a := ad.add i) (by rw [Go.ChangeShapes.block_add]; exact hBW.block _ hlt)).trans hc⟩
  have hb : W.heap[w.heap.size + 1]? = some (.cells #[.slice none 0 0, .int .i64 0, .int .i8 0] 129 (0, 0)) := by
    have := heap_alloc_new (w.alloc (.cells #[.slice A l.length cA] 75)) (.cells #[.slice none 0 0, .int .i64 0, .int .i8 0] 129)
    rw [World.size_alloc] at this
    rw [hW]; exact this
  have hc := writeRow_any (w.heap.size + 1) w.heap.size A cA n l W hn hl hln hb hN
  unfold CF at hc
  rw [hW] at hc
  have HC := Lib.hid hc
  have HL := Lib.hid (rhead_len n l hn hl)
  have HW := Lib.hid (And.intro hW (And.intro hBW hsz))
  clear hW hBW hsz hN hb hc hn hl hln hC
  go_enter Tryd.func44, Tryd.ntmps44
  go_wp2_with (first
    | (go_at_call 92; go_loud (refine HC.out.mono ?_; rintro e_ w1 ⟨rfl, g, h1, h2, h3⟩; rw [← HW.out.1] at h1 h3; have H1 := Lib.hid (And.intro h1 h3); have HF := Lib.hid (h2.bf (B := w.heap.size + 1) (Nat.le_refl _) (by have := HW.out.2.2; omega) HL.out); clear h1 h2 h3))
    | (go_at_call 84; refine (string_any _ _ _ _ HF.out).mono ?_; rintro e_ w3 ⟨rfl, q2, hq⟩; have HQ := Lib.hid hq; clear hq)
    | (go_at_call 63; refine (word_nil _).mono ?_; rintro e_ w4 ⟨rfl, rfl⟩))
  go_ret2
  refine ⟨rfl, ?_⟩
  have hk := H1.out.2
  have hg := H1.out.1
  obtain ⟨_, hBW, hsz⟩ := HW.out
  rw [HQ.out]
  refine ⟨hk.1.trans hBW.os, hk.2.1.trans hBW.tape, hk.2.2.1.trans hBW.output, Nat.le_trans hBW.size hk.2.2.2.1, fun k hlt => ?_⟩
  exact (hk.2.2.2.2 k (Nat.lt_of_lt_of_le hlt hBW.size) (by omega) (by omega)).trans (hBW.block k hlt)
end Go.Proofs.YtgdbeiadlgkedaaDoor

/- The law of rows' headers. -/
set_option linter.unusedVariables false
set_option linter.unusedSimpArgs false
namespace Go.Proofs.YtgdbeiadlgkedaaDoor
open Go.RowKit PFnRowHeader Go.Proofs.YtgdbeiadlgkedaaDoorW.PrintWords Go.Proofs.YtgdbeiadlgkedaaDoorW.PrintLast Go.Proofs.YtgdbeiadlgkedaaDoorW.PrintMore
theorem info4 : (Tryd.prog.info? 4).map (fun i => (i.zero, i.size, i.bytes)) = some (some (.bool false), 1, 1) := by kernel_rfl
section
variable {P : Program} {ops : Array Oper} {rest : List Oper} {o : Oper} {a : Act} {Q : Exit → Act → World → Prop}
/-- append(v, ys..) of bools in a plain region: the new slice by its parts. -/
theorem R_append_bools {w0 W : World} (base : Nat) (hgd : o.guard = none) (s x : Operand) (t : TypeId)
    (ho : o.op = .call { callee := .builtin .append, args := #[s, x], argTypes := #[t, t] })
    (ht : P.underlying t = some (.slice 4)) (hinfo : (P.info? 4).map (fun i => (i.zero, i.size, i.bytes)) = some (some (.bool false), 1, 1))
    (v : Value) (xs ys : List Bool) (A : Option Addr) (m c : Nat) (hs : a.eval s = v) (hx : a.eval x = .slice A m c)
    (HO : Kd.bool.R 4 W base (fun _ => True) v xs) (HR : Kd.bool.C W A m ys) (HB : Below base w0 W) (hbase : base ≤ W.heap.size) (hl : (xs.length + m) * 1 ≤ 140737488355328)
    (h : ∀ A1 c1 w1, Kd.bool.R 4 w1 base (fun _ => True) (.slice A1 (xs ++ ys).length c1) (xs ++ ys) → Below base w0 w1 → W.grownBy w1 v.ownBlock → wpList P ops Q rest (a.put o.dst (.slice A1 (xs ++ ys).length c1)) w1) : wpList P ops Q (o :: rest) a W := by
  refine Kd.R_append_rows Kd.bool (Rr := Kd.bool.K W) (w0 := w0) base hgd s x t 4 _ 1 ho ht hinfo rfl (by decide) (by decide) v xs ys A m c (fun _ => True) (fun _ => False) hs hx HO HR (fun _ _ q => q) (fun _ q => q.elim) (fun _ _ => trivial) HB hbase hl (fun v1 w1 h1 h2 h3 _ => ?_)
  obtain ⟨A1, c1, hv⟩ := Kd.R_slice h1
  subst hv
  exact h A1 c1 w1 h1 h2 h3
end
theorem below_none {W w1 : World} (h : W.grownBy w1 none) : Below W.heap.size W w1 := ⟨h.os, h.tape, h.output, h.size, fun i hi => h.block i hi (by simp)⟩
set_option maxHeartbeats 4000000 in
set_option maxRecDepth 100000 in
theorem rowHeader_row (pe pl : Addr) (n : Int) (A : Option Addr) (cA : Nat) (l : List Bool) (w : World) (he : Env w.heap.size pe pl w) (hC : Kd.C Kd.bool w A l.length l) (hc : l.length ≤ cA) :
    Calls Tryd.prog 18 #[.int .i64 n, .slice A l.length cA] w fun e w' => e = .returned (.bool true) ∧ Below w.heap.size w w' := by
  have HE := Lib.hid he
  by_cases h1 : 2147483647 < l.length
  · have hc1 : 2147483647 < (l.length : Int) := by omega
    clear he hC hc h1
    go_enter Tryd.func18, Tryd.ntmps18
    go_wp2
    go_ret
    exact ⟨rfl, Below.refl _ w⟩
  · have hc1 : ¬ 2147483647 < (l.length : Int) := by omega
    by_cases h2 : 0 ≤ n ∧ n ≤ 10000 ∧ (l.length : Int) ≤ 200 ∧ (l.length : Int) ≤ n
    · have HF := Lib.hid (laws_codRowFew.calls n A cA l true w hC hc (by rw [few_some, decide_eq_true h2]))
      obtain ⟨k, rfl⟩ := Int.eq_ofNat_of_zero_le h2.1
      have HK := Lib.hid (show k ≤ 10000 ∧ l.length ≤ 200 ∧ l.length ≤ k by omega)
      obtain ⟨f, hf⟩ := rowHead_some k HK.out.1 l HK.out.2.1
      have HS := Lib.hid hf
      have HC := Lib.hid hC
      have HCC := Lib.hid hc
      generalize hr : (⟨(rhead k l).toArray⟩ : ByteArray) = r at HS
      have HRR := Lib.hid hr
      clear he hC hc h1 h2 hf hr
      go_enter Tryd.func18, Tryd.ntmps18
      go_wp2_with (first
        | (go_at_call 43; go_loud (refine HF.out.mono ?_; rintro e_ w1 ⟨rfl, hd⟩; have HB1 := Lib.hid hd.below; have HC1 := Lib.hid (Kd.C_below HC.out hd.below); clear hd))
        | ((with_reducible refine gate_builtin (b := .append) (xs := #[.const (.slice none 0 0), .tmp 17]) rfl ?_); at_builtin; refine R_append_bools (w0 := w) (W := w1) w.heap.size rfl (.const (.slice none 0 0)) (.tmp 17) 75 rfl Tryd.underlying75 info4 _ [] l A l.length cA rfl rfl (Kd.R_nil _ _ _ _ _) HC1.out HB1.out HB1.out.size ?hl ?_; (case hl => have := HK.out; simp; omega); intro A2 c2 w2 hR2 hB2 hg2; rw [List.nil_append] at hR2 ⊢; have HC2 := Lib.hid (Kd.R_reads' hR2).2.2; have HB2 := Lib.hid hB2; have HG2 := Lib.hid (Kd.C_below HC1.out (below_none hg2)); clear hR2 hB2 hg2)
        | (go_at_call 44; go_loud (refine (implRow_any A2 c2 k l w2 HK.out.1 HK.out.2.1 HK.out.2.2 HC2.out).mono ?_; rintro e_ w3 ⟨rfl, hb⟩; rw [HRR.out]; have HB3 := Lib.hid (below_then HB2.out HB2.out.size hb); have HC3 := Lib.hid (Kd.C_below HG2.out hb); clear hb))
        | (go_at_call 21; refine (awake_any w.heap.size pe pl w3 (HE.out.below HB3.out) HB3.out.size).mono ?_; rintro e_ w4 ⟨rfl, hb⟩; have HB4 := Lib.hid (below_then HB3.out HB3.out.size hb); have HC4 := Lib.hid (Kd.C_below HC3.out hb); clear hb)
        | (go_at_call 42; refine (spec_CodRowHead.calls f _ A cA l r w4 HC4.out HCC.out HS.out).mono ?_; rintro e_ w5 ⟨rfl, hb⟩; have HB5 := Lib.hid (below_then HB4.out HB4.out.size hb); clear hb))
      go_ret
      exact ⟨rfl, HB5.out⟩
    · have HF := Lib.hid (laws_codRowFew.calls n A cA l false w hC hc (by rw [few_some, decide_eq_false h2]))
      clear he hC hc h1 h2
      go_enter Tryd.func18, Tryd.ntmps18
      go_wp2_with (first
        | (go_at_call 43; go_loud (refine HF.out.mono ?_; rintro e_ w1 ⟨rfl, hd⟩; have HB1 := Lib.hid hd.below; clear hd))
        | (go_at_call 21; refine (awake_any w.heap.size pe pl w1 (HE.out.below HB1.out) HB1.out.size).mono ?_; rintro e_ w4 ⟨rfl, hb⟩; have HB4 := Lib.hid (below_then HB1.out HB1.out.size hb); clear hb))
      go_ret
      exact ⟨rfl, HB4.out⟩
end Go.Proofs.YtgdbeiadlgkedaaDoor
