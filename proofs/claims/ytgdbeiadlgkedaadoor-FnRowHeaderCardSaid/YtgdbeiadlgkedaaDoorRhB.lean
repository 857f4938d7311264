/- Plain: a row's head, as the printed function tells it. -/
import Derived.Test.YtgdbeiadlgkedaaDoorRhA
set_option linter.unusedVariables false
set_option linter.unusedSimpArgs false
namespace Go.Proofs.YtgdbeiadlgkedaaDoor
open Go.RowKit PFnRowHeader Go.Proofs.YtgdbeiadlgkedaaDoorW.PrintWords Go.Proofs.YtgdbeiadlgkedaaDoorW.PrintLast Go.Proofs.YtgdbeiadlgkedaaDoorW.PrintMore
theorem or128b : ∀ d : Fin 256, Go.bits .or .u8 ((d : Nat) : Int) 128 = (((d : Nat) % 128 + 128 : Nat) : Int) := by decide +kernel
theorem sn_one (m : Nat) : strOfNums [((m : Nat) : Int)] = ⟨#[m.toUInt8]⟩ := by simp [strOfNums]
theorem le1 (s : ByteArray) (x : UInt8) (h : s.size + 1 ≤ 1000) : s.size + (⟨#[x]⟩ : ByteArray).size ≤ 9223372036854775807 := Nat.le_trans h (by decide)
theorem varint_l0 : ∀ (n v : Nat) (s : ByteArray), v ≤ n → s.size + (Lib.uvarint v).length ≤ 1000 → ∃ k, spec_CodVarint.l0 k (v : Int) s = some (s ++ ⟨(Lib.uvarint v).toArray⟩) := by
  intro n
  induction n with
  | zero =>
    intro v s hv hs
    obtain rfl : v = 0 := by omega
    refine ⟨1, ?_⟩
    rw [Lib.uvarint_small (by decide)] at hs ⊢
    rw [spec_CodVarint.l0, if_neg (by omega)]
    simp only [Option.bind_some]
    rw [show (((0 : Nat) : Int) % 256) = ((0 : Nat) : Int) by decide, sn_one]
    rw [if_pos (le1 s _ (show s.size + 1 ≤ 1000 from hs))]
  | succ n ih =>
    intro v s hv hs
    by_cases h : v < 128
    · refine ⟨1, ?_⟩
      rw [Lib.uvarint_small h] at hs ⊢
      rw [spec_CodVarint.l0, if_neg (by omega)]
      simp only [Option.bind_some]
      rw [show ((v : Int) % 256) = ((v : Nat) : Int) by omega, sn_one]
      rw [if_pos (le1 s _ (show s.size + 1 ≤ 1000 from hs))]
    · rw [Lib.uvarint_big (by omega)] at hs ⊢
      obtain ⟨k, hk⟩ := ih (v / 128) (s ++ ⟨#[(v % 128 + 128).toUInt8]⟩) (by omega) (by rw [List.length_cons] at hs; rw [ByteArray.size_append]; show s.size + 1 + _ ≤ 1000; omega)
      refine ⟨k + 1, ?_⟩
      rw [spec_CodVarint.l0, if_pos (by omega)]
      simp only [Option.bind_some]
      have e : ((v : Int) % 256) = (((⟨v % 256, by omega⟩ : Fin 256) : Nat) : Int) := by simp
      rw [e, or128b, show ((⟨v % 256, by omega⟩ : Fin 256) : Nat) % 128 + 128 = v % 128 + 128 by simp only; omega, sn_one]
      rw [if_pos (le1 s _ (show s.size + 1 ≤ 1000 by rw [List.length_cons] at hs; omega)), show ((v : Int) / 128) = ((v / 128 : Nat) : Int) by omega, hk]
      congr 1
      apply ByteArray.ext
      simp
theorem varint_some (v : Nat) (hv : v < 18446744073709551616) : ∃ k, spec_CodVarint.f k (v : Int) = some ⟨(Lib.uvarint v).toArray⟩ := by
  obtain ⟨k, hk⟩ := varint_l0 v v ⟨#[]⟩ (Nat.le_refl _) (by have := Lib.uvarint_length64 hv; simp [ByteArray.size]; omega)
  refine ⟨k, ?_⟩
  rw [spec_CodVarint.f, hk]
  congr 1
theorem varint_up (y : Int) (r : ByteArray) : ∀ d k, spec_CodVarint.f k y = some r → spec_CodVarint.f (k + d) y = some r
  | 0, _, h => h
  | d + 1, k, h => spec_CodVarint.mono y (k + d) r (varint_up y r d k h)
def u64n (t : Int) : Nat := (t % 18446744073709551616).toNat
theorem u64n_lt (t : Int) : u64n t < 18446744073709551616 := by unfold u64n; omega
theorem u64n_wrap (t : Int) : IntKind.u64.wrap t = (u64n t : Int) := by
  unfold u64n
  simp [IntKind.wrap, IntKind.bits, IntKind.signed]
  omega
theorem lastB_ge (l : List Bool) (i : Nat) (hi : isN l i = true) : ∀ N, i < N → ((i / 8 : Nat) : Int) ≤ lastB l N := by
  intro N h
  induction N with
  | zero => omega
  | succ N ih =>
    unfold lastB
    split
    · omega
    · rename_i hn
      have : i ≠ N := fun e => hn (e ▸ hi)
      exact ih (by omega)
theorem rd_map (m : Nat) (g : Nat → Int) (j : Nat) (hj : j < m) : rd ((List.range m).map g) (j : Int) = g j := by
  unfold rd
  simp [hj]
theorem set_map (m : Nat) (g h : Nat → Int) (j : Nat) (hj : j < m) (he : ∀ q, q ≠ j → g q = h q) : ((List.range m).map g).set j (h j) = (List.range m).map h := by
  apply List.ext_getElem?
  intro q
  rw [List.getElem?_set]
  by_cases e : j = q
  · subst e; simp [hj]
  · rw [if_neg e]
    by_cases hq : q < m
    · simp [hq, he q (fun e' => e e'.symm)]
    · rw [List.getElem?_eq_none (by simp; omega), List.getElem?_eq_none (by simp; omega)]

def rhead (n : Nat) (l : List Bool) : List UInt8 := Lib.uvarint n ++ (Lib.uvarint (rbytes l).length ++ (rbytes l).map Nat.toUInt8)
theorem rbytes_len (l : List Bool) (hl : l.length ≤ 200) : (rbytes l).length ≤ 200 := by
  have := lastB_bd l l.length
  unfold rbytes
  rw [List.length_map, List.length_range]
  omega
theorem sn_list (xs : List Nat) : strOfNums (xs.map fun x : Nat => ((x : Nat) : Int)) = ⟨(xs.map Nat.toUInt8).toArray⟩ := by
  unfold strOfNums
  rw [List.map_map]
  congr 2
theorem shl_one : ∀ k : Fin 8, shl .u8 1 ((k : Nat) : Int) = ((2 ^ (k : Nat) : Nat) : Int) := by decide +kernel
theorem or_step (l : List Bool) (i : Nat) : Go.bits .or .u8 ((pkU l (i / 8) i : Nat) : Int) (shl .u8 1 ((i % 8 : Nat) : Int)) = ((pkU l (i / 8) i + 2 ^ (i % 8) : Nat) : Int) := by
  have h1 := pkU_lt l (i / 8) i (by omega) (by omega)
  rw [show i - 8 * (i / 8) = i % 8 by omega] at h1
  have h2 := or_bit ⟨i % 8, by omega⟩ ⟨pkU l (i / 8) i, pkU_256 l _ _⟩ h1
  have h3 := shl_one ⟨i % 8, by omega⟩
  simp only at h2 h3
  rw [h3, h2]
theorem head_l1 (n : Nat) (hn : n ≤ 10000) (l : List Bool) (hl : l.length ≤ 200) (m : Nat) (hm : m = (lastB l l.length + 1).toNat) : ∀ d i : Nat, d = l.length - i → i ≤ l.length → ∃ k, spec_CodRowHead.l1 k (n : Int) ((List.range m).map fun j => ((pkU l j i : Nat) : Int)) l (l.length : Int) (i : Int) = some ⟨(rhead n l).toArray⟩ := by
  intro d
  induction d with
  | zero =>
    intro i hd hi
    obtain rfl : i = l.length := by omega
    have er : ((List.range m).map fun j => ((pkU l j l.length : Nat) : Int)) = (rbytes l).map fun x : Nat => ((x : Nat) : Int) := by
      unfold rbytes; rw [List.map_map, hm]; rfl
    rw [er]
    have hr := rbytes_len l hl
    obtain ⟨k1, h1⟩ := varint_some n (by omega)
    obtain ⟨k2, h2⟩ := varint_some (rbytes l).length (by omega)
    refine ⟨k1 + k2 + 1, ?_⟩
    have v1 := varint_up _ _ k2 k1 h1
    have v2 := varint_up _ _ k1 k2 h2
    rw [show k2 + k1 = k1 + k2 by omega] at v2
    rw [spec_CodRowHead.l1, if_neg (by omega), u64n_wrap, u64n_wrap, List.length_map]
    rw [show u64n (n : Int) = n by unfold u64n; omega, show u64n ((rbytes l).length : Int) = (rbytes l).length by unfold u64n; omega, v1, v2]
    simp only [Option.bind_some]
    have l1 := Lib.uvarint_length64 (x := n) (by omega)
    have l2 := Lib.uvarint_length64 (x := (rbytes l).length) (by omega)
    rw [sn_list]
    have s1 : (⟨(Lib.uvarint n).toArray⟩ : ByteArray).size = (Lib.uvarint n).length := by simp [ByteArray.size]
    have s2 : (⟨(Lib.uvarint (rbytes l).length).toArray⟩ : ByteArray).size = (Lib.uvarint (rbytes l).length).length := by simp [ByteArray.size]
    have s3 : (⟨((rbytes l).map Nat.toUInt8).toArray⟩ : ByteArray).size = (rbytes l).length := by simp [ByteArray.size]
    rw [if_pos (by rw [s1, s2]; omega), if_pos (by rw [ByteArray.size_append, s1, s2, s3]; omega)]
    congr 1
    apply ByteArray.ext
    simp [rhead]
  | succ d ih =>
    intro i hd hi
    obtain ⟨k, hk⟩ := ih (i + 1) (by omega) (by omega)
    refine ⟨k + 1, ?_⟩
    have e1 : rdOf false l (i : Int) = isN l i := by unfold rdOf isN; simp
    rw [spec_CodRowHead.l1, if_pos (by omega), if_pos (by omega), if_pos (by omega), e1]
    have ew : wrap64 ((i : Int) + 1) = ((i + 1 : Nat) : Int) := by unfold wrap64; omega
    by_cases hb : isN l i = true
    · rw [if_pos hb]
      have eq : wrap64 (Int.tdiv (i : Int) 8) = ((i / 8 : Nat) : Int) := by
        rw [Int.tdiv_eq_ediv_of_nonneg (by omega)]; unfold wrap64; omega
      have em : Int.tmod (i : Int) 8 = ((i % 8 : Nat) : Int) := by rw [Int.tmod_eq_emod_of_nonneg (by omega)]; omega
      have hj : i / 8 < m := by
        have := lastB_ge l i hb l.length (by omega)
        omega
      rw [eq, em, if_pos (by omega), if_pos (by simp; omega), if_pos (by omega), rd_map m _ (i / 8) hj, or_step, ew]
      rw [show (((i / 8 : Nat) : Int)).toNat = i / 8 by omega]
      have hs := set_map m (fun j => ((pkU l j i : Nat) : Int)) (fun j => ((pkU l j (i + 1) : Nat) : Int)) (i / 8) hj (fun q hq => by show ((pkU l q i : Nat) : Int) = ((pkU l q (i + 1) : Nat) : Int); rw [pkU, if_neg (fun h => hq h.1.symm)])
      have hv : pkU l (i / 8) (i + 1) = pkU l (i / 8) i + 2 ^ (i % 8) := by rw [pkU, if_pos ⟨rfl, hb⟩]
      rw [← hv]
      rw [hs]
      exact hk
    · rw [if_neg hb, ew]
      have ee : ((List.range m).map fun j => ((pkU l j i : Nat) : Int)) = ((List.range m).map fun j => ((pkU l j (i + 1) : Nat) : Int)) := by
        apply List.map_congr_left
        intro j _
        rw [pkU, if_neg (fun h => hb h.2)]
      rw [ee]
      exact hk
theorem head_l0 (n : Nat) (hn : n ≤ 10000) (l : List Bool) (hl : l.length ≤ 200) : ∀ (d i : Nat) (x5 : Int), d = l.length - i → i ≤ l.length → (x5 + 8) / 8 = lastB l i + 1 → -1 ≤ x5 → x5 < (i : Int) → ∃ k, spec_CodRowHead.l0 k (n : Int) l x5 l (l.length : Int) (i : Int) = some ⟨(rhead n l).toArray⟩ := by
  intro d
  induction d with
  | zero =>
    intro i x5 hd hi h1 h2 h3
    obtain rfl : i = l.length := by omega
    have hb := lastB_bd l l.length
    obtain ⟨k, hk⟩ := head_l1 n hn l hl _ rfl l.length 0 (by omega) (by omega)
    refine ⟨k + 1, ?_⟩
    have e1 : wrap64 (Int.tdiv (wrap64 (x5 + 8)) 8) = (((lastB l l.length + 1).toNat : Nat) : Int) := by
      rw [show wrap64 (x5 + 8) = x5 + 8 by unfold wrap64; omega, Int.tdiv_eq_ediv_of_nonneg (by omega), h1]
      unfold wrap64; omega
    rw [spec_CodRowHead.l0, if_neg (by omega), e1, if_pos (by omega), if_pos (by omega)]
    have e2 : List.replicate (((lastB l l.length + 1).toNat : Nat) : Int).toNat (0 : Int) = ((List.range (lastB l l.length + 1).toNat).map fun j => ((pkU l j 0 : Nat) : Int)) := by
      rw [show (((lastB l l.length + 1).toNat : Nat) : Int).toNat = (lastB l l.length + 1).toNat by omega]
      apply List.ext_getElem?
      intro q
      by_cases hq : q < (lastB l l.length + 1).toNat
      · simp [hq, pkU]
      · rw [List.getElem?_eq_none (by simp; omega), List.getElem?_eq_none (by simp; omega)]
    rw [e2]
    exact hk
  | succ d ih =>
    intro i x5 hd hi h1 h2 h3
    have ew : wrap64 ((i : Int) + 1) = ((i + 1 : Nat) : Int) := by unfold wrap64; omega
    have e1 : rdOf false l (i : Int) = isN l i := by unfold rdOf isN; simp
    by_cases hb : isN l i = true
    · obtain ⟨k, hk⟩ := ih (i + 1) (i : Int) (by omega) (by omega) (by rw [lastB, if_pos hb]; omega) (by omega) (by omega)
      exact ⟨k + 1, by rw [spec_CodRowHead.l0, if_pos (by omega), if_pos (by omega), if_pos (by omega), e1, if_pos hb, ew]; exact hk⟩
    · obtain ⟨k, hk⟩ := ih (i + 1) x5 (by omega) (by omega) (by rw [lastB, if_neg hb]; exact h1) (by omega) (by omega)
      exact ⟨k + 1, by rw [spec_CodRowHead.l0, if_pos (by omega), if_pos (by omega), if_pos (by omega), e1, if_neg hb, ew]; exact hk⟩
theorem rowHead_some (n : Nat) (hn : n ≤ 10000) (l : List Bool) (hl : l.length ≤ 200) : ∃ k, spec_CodRowHead.f k (n : Int) l = some ⟨(rhead n l).toArray⟩ := by
  obtain ⟨k, hk⟩ := head_l0 n hn l hl l.length 0 (-1) (by omega) (by omega) (by rw [lastB]; decide) (by omega) (by omega)
  exact ⟨k, hk⟩
theorem few_some (n : Int) (l : List Bool) : laws_codRowFew.f n l = some (decide (0 ≤ n ∧ n ≤ 10000 ∧ (l.length : Int) ≤ 200 ∧ (l.length : Int) ≤ n)) := by
  unfold laws_codRowFew.f
  by_cases h0 : n ≥ 0
  · by_cases h1 : n ≤ 10000
    · by_cases h2 : (l.length : Int) ≤ 200
      · rw [if_pos h0, if_pos h1, if_pos h2]
        congr 1
        exact decide_eq_decide.2 ⟨fun h => ⟨h0, h1, h2, h⟩, fun h => h.2.2.2⟩
      · rw [if_pos h0, if_pos h1, if_neg h2, decide_eq_false (fun h => h2 h.2.2.1)]
    · rw [if_pos h0, if_neg h1, decide_eq_false (fun h => h1 h.2.1)]
  · rw [if_neg h0, decide_eq_false (fun h => h0 h.1)]
end Go.Proofs.YtgdbeiadlgkedaaDoor
