/- The walk of the statement on numbers that are longer than they must be. -/
import Derived.Test.YtgdbeiadlgkedaaDoorL3
import Derived.Test.YtgdbeiadlgkedaaDoorDv12
import Derived.Test.YtgdbeiadlgkedaaDoorPl3
namespace Go.Proofs.YtgdbeiadlgkedaaDoor
open Go.RowKit
set_option linter.unusedVariables false
set_option linter.unusedSimpArgs false

/-- The text at the loop's head. -/
def vst (n k i : Nat) : List UInt8 := if k = 0 then Lib.uvarint n else if i < k then vcont n ++ List.replicate i 128 else vlong n k
theorem vst_on {n k i : Nat} (h : i + 1 < k) : vst n k (i + 1) = vst n k i ++ [128] := by
  unfold vst
  rw [if_neg (show ¬ k = 0 by omega), if_neg (show ¬ k = 0 by omega), if_pos h, if_pos (show i < k by omega), List.append_assoc]
  congr 1
  rw [List.replicate_succ']
theorem vst_end {n k i : Nat} (h : i + 1 = k) : vst n k (i + 1) = vst n k i ++ [0] := by
  unfold vst vlong
  rw [if_neg (show ¬ k = 0 by omega), if_neg (show ¬ i + 1 < k by omega), if_neg (show ¬ k = 0 by omega), if_neg (show ¬ k = 0 by omega), if_pos (show i < k by omega), List.append_assoc, show k - 1 = i by omega]
theorem vst_len (n k i : Nat) (h : i ≤ k) : (vst n k i).length ≤ (Lib.uvarint n).length + k := by
  unfold vst
  split
  · omega
  · split
    · rw [List.length_append, vcont_len n n (Nat.le_refl _), List.length_replicate]; omega
    · rw [vlong_len]; omega

theorem vst_all (n k : Nat) : vst n k k = vlong n k := by
  unfold vst
  split
  · unfold vlong; rename_i h; rw [if_pos h]
  · rw [if_neg (by omega)]
theorem cut_last (s : ByteArray) (pre : List UInt8) (c : UInt8) (h : s.data.toList = pre ++ [c]) : s.extract 0 pre.length = ⟨pre.toArray⟩ := by
  apply str_ext
  rw [Lib.extract_data, h, List.drop_zero, Nat.sub_zero, List.take_left' rfl]
theorem get_last (s : ByteArray) (pre : List UInt8) (c : UInt8) (h : s.data.toList = pre ++ [c]) (hm : pre.length < s.size) : s[pre.length]'hm = c := by
  have h2 : s.data = (pre ++ [c]).toArray := by rw [← h]
  show s.data[pre.length]'hm = c
  simp [h2]
theorem conv1d (x : UInt8) (n : Nat) (hx : x.toNat = n) : ∀ W : World, (convert 29 9 (.slice (some ⟨W.heap.size, 0, none⟩) 1 1)).run Tryd.prog (W.alloc (.cells #[.int .u8 (n : Int)] 5)).drew = .ok (.string ⟨#[x]⟩) (W.alloc (.cells #[.int .u8 (n : Int)] 5)).drew := by
  intro W
  have := run_convert_bytes_back (P := Tryd.prog) (W.alloc (.cells #[.int .u8 (n : Int)] 5)).drew 29 9 5 ⟨W.heap.size, 0, none⟩ 1 [x] Tryd.underlying29 Tryd.underlying5 Tryd.underlying9 (fun j hj => by
    obtain rfl : j = 0 := by simpa using hj
    rw [Lib.addr_add]
    subst hx
    exact (blk_cell (heap_alloc_new W _) 0).trans rfl)
  exact this
theorem u8_or128_nat (c : UInt8) (h : c.toNat < 128) : bits .or .u8 (c.toNat : Int) 128 = ((c.toNat + 128 : Nat) : Int) := by
  rw [Lib.u8_or128_any _ (by omega) (by omega)]; omega
set_option maxHeartbeats 8000000 in
set_option maxRecDepth 100000 in
theorem varLong_walk (pe pl : Addr) (n k more : Nat) (w : World) (hn : n < 18446744073709551616) (hmore : more < 256) (hk : more % 13 = k) (he : Env w.heap.size pe pl w) :
    Calls Tryd.prog 11 #[.int .u64 n, .int .u8 more] w fun e w' => e = .returned (.bool true) ∧ Below w.heap.size w w' := by
  obtain ⟨pre, c, hu, hv, hc⟩ := vcont_split n n (Nat.le_refl _)
  obtain ⟨s, hs⟩ : ∃ s : ByteArray, s = ⟨(Lib.uvarint n).toArray⟩ := ⟨_, rfl⟩
  have HC := Lib.hid (show ∀ W, Calls Tryd.prog 32 #[.int .u64 n] W fun e w' => e = .returned (.string s) ∧ Below W.heap.size W w' from fun W => by rw [hs]; exact codVarint_any n W hn)
  have HE := Lib.hid he
  have HN := Lib.hid hn
  have hk13 : (k : Int) < 13 := by omega
  have HK13 := Lib.hid (show k < 13 by omega)
  have q0 : (more : Int) % 13 = (k : Int) := by omega
  have hw0 : wrap64 (more : Int) = (more : Int) := by unfold wrap64; omega
  have HSL := Lib.hid (show s.data.toList = Lib.uvarint n by rw [hs])
  obtain ⟨m, hm⟩ : ∃ m, Hid (pre.length = m) := ⟨_, Lib.hid rfl⟩
  obtain ⟨d, hd⟩ : ∃ d, Hid (c.toNat = d) := ⟨_, Lib.hid rfl⟩
  obtain ⟨g, hg⟩ : ∃ g, Hid (d + 128 = g) := ⟨_, Lib.hid rfl⟩
  have HML := Lib.hid (show m + 1 ≤ 10 by have := Lib.uvarint_length64 hn; rw [hu, List.length_append, hm.out] at this; simpa using this)
  have hsz : (s.size : Int) - 1 = (m : Int) := by
    have : s.size = m + 1 := by rw [hs, size_mk, hu, List.length_append, hm.out]; rfl
    omega
  have hm1 : wrap64 ((s.size : Int) - 1) = (m : Int) := by rw [hsz]; unfold wrap64; have := HML.out; omega
  have hm2 : IntKind.i64.wrap ((s.size : Int) - 1) = (m : Int) := by rw [hsz]; exact IntWalk.i64_in _ (by have := HML.out; omega)
  have hm3 : (m : Int) ≤ (s.size : Int) := by omega
  have hm4 : (m : Int) < (s.size : Int) := by omega
  obtain ⟨t0, ht0⟩ : ∃ t : ByteArray, t = ⟨pre.toArray⟩ := ⟨_, rfl⟩
  have hm5 : s.extract 0 m = t0 := by rw [← hm.out, ht0]; exact cut_last s pre c (by rw [HSL.out, hu])
  have hm7 : ∀ h : m < s.size, s[m]'h = c := by
    intro h
    have := hm.out
    subst this
    exact get_last s pre c (by rw [HSL.out, hu]) h
  have hor : bits .or .u8 (c.toNat : Int) 128 = (g : Int) := by rw [u8_or128_nat c hc, hd.out, hg.out]
  have hm6 : m < s.size := by omega
  obtain ⟨x, hx⟩ : ∃ x : UInt8, x = g.toUInt8 := ⟨_, rfl⟩
  have kc := conv1d x g (by rw [hx]; exact u8_toNat (by have := hd.out; have := hg.out; omega))
  have kadd := add1 t0 x (by rw [ht0]; show pre.length ≤ _; have := hm.out; have := HML.out; omega)
  have HV0 := Lib.hid (show 0 < k → (t0 ++ ⟨#[x]⟩ : ByteArray).data.toList = vst n k 0 by
    intro h0; rw [data_append, ht0]; unfold vst; rw [if_neg (by omega), if_pos h0, hv, hx, hd.out, hg.out]; simp)
  have HV1 := Lib.hid (show k = 0 → s.data.toList = vst n k 0 by
    intro h0; rw [HSL.out]; unfold vst; rw [if_pos h0])
  clear hsz
  by_cases hk0 : k = 0
  · have hkp : ¬ 0 < (k : Int) := by omega
    have HK := Lib.hid hk
    have HK0 := Lib.hid hk0
    clear hk hk0 hn he hmore hs hu hv hc hm1 hm2 hm3 hm4 hm5 hm6 hm7 hor kc kadd hx ht0
    go_enter Tryd.func11, Tryd.ntmps11
    go_wp2_with (go_at_call 32; go_loud (refine (HC.out w).mono ?_; rintro e_ w1 ⟨rfl, hb1⟩; have HB1 := Lib.hid hb1; clear hb1))
    go_loopg [5, 33] k (fun kq v5 v33 wr => ∃ (i : Nat) (t : ByteArray), v5 = .string t ∧ v33 = .int .i64 i ∧ Hid (i + kq = k) ∧ Hid (t.data.toList = vst n k i) ∧ Hid (Below w.heap.size w wr))
    case atStart => exact ⟨0, s, rfl, rfl, Lib.hid (by omega), Lib.hid (HV1.out HK0.out), HB1⟩
    case round =>
      obtain ⟨i, t, rfl, rfl, HI, HT, HB⟩ := hrel
      have hz0 : wrap64 ((k : Int) - 1) = (k : Int) - 1 := by unfold wrap64; have := HK13.out; omega
      have hz1 : IntKind.i64.wrap ((k : Int) - 1) = (k : Int) - 1 := IntWalk.i64_in _ (by have := HK13.out; omega)
      cases gk with
      | zero =>
        obtain rfl : i = k := by have := HI.out; omega
        have HTL := Lib.hid (show t.data.toList.length = (Lib.uvarint n).length + i by rw [HT.out, vst_all, vlong_len])
        have HTS := Lib.hid (show t.size = t.data.toList.length by rw [Array.length_toList]; rfl)
        by_cases hlen : (Lib.uvarint n).length + i ≤ 10
        · have HV := Lib.hid (show vrd 0 0 t.data.toList = some (n, (Lib.uvarint n).length + i) by rw [HT.out, vst_all]; exact vlong_ok n i HN.out hlen)
          obtain ⟨z, hz⟩ : ∃ z, Hid ((Lib.uvarint n).length + i = z) := ⟨_, Lib.hid rfl⟩
          have hsz : t.size = z := by rw [HTS.out, HTL.out, hz.out]
          have HZ := Lib.hid (show z ≤ 10 by have := hz.out; omega)
          have hg : ¬ (10 < (z : Int)) := by have := HZ.out; omega
          rw [hz.out] at HV
          clear hlen
          go_wp2_with (first
            | (go_at_call 20; go_loud ((with_reducible refine (decVal_12_ok w.heap.size pe pl t _ (by rw [hsz]; have := HZ.out; omega) (HE.out.below HB.out) HB.out.size n z HV.out).mono ?_); rintro e_ w2 ⟨rfl, hb2⟩; have HB2 := Lib.hid (HB.out.trans (hb2.mono HB.out.size)); clear hb2))
            | (go_at_call 21; go_loud (refine (awake_any w.heap.size pe pl _ (HE.out.below (HB2.out.alloc HB2.out.size _)) (by have := HB2.out.size; simp; omega)).mono ?_; rintro e_ w3 ⟨rfl, hb3⟩; have HB3 := Lib.hid ((HB2.out.alloc HB2.out.size _).trans (hb3.mono (by have := HB2.out.size; simp; omega))); obtain ⟨hc_, hf_⟩ := (⟨fun o => hb3.cell (p := ⟨w2.heap.size, o, none⟩) (by simp), trivial⟩ : (∀ o, w3.cell? ⟨w2.heap.size, o, none⟩ = _) ∧ True); have x3 := (hc_ 3).trans ((blk_cell (heap_alloc_new w2 _) 3).trans rfl); clear hc_ hb3)))
          go_ret
          exact ⟨rfl, HB3.out⟩
        · have HV := Lib.hid (show vrd 0 0 t.data.toList = none by rw [HT.out, vst_all]; exact vlong_bad n i HN.out hlen)
          obtain ⟨z, hz⟩ : ∃ z, Hid ((Lib.uvarint n).length + i = z) := ⟨_, Lib.hid rfl⟩
          have hsz : t.size = z := by rw [HTS.out, HTL.out, hz.out]
          have HZ := Lib.hid (show z ≤ 1000 by have := hz.out; have := HK13.out; have := Lib.uvarint_length64 HN.out; omega)
          have hg : 10 < (z : Int) := by have := hz.out; omega
          clear hlen
          go_wp2_with (first
            | (go_at_call 20; go_loud ((with_reducible refine (decVal_12_bad w.heap.size pe pl t _ (by rw [hsz]; have := HZ.out; omega) (HE.out.below HB.out) HB.out.size HV.out).mono ?_); rintro e_ w2 ⟨rn, rs, rfl, hrn, hrs, hb2⟩; have hne1 := ne_empty hrs; have HB2 := Lib.hid (HB.out.trans (hb2.mono HB.out.size)); clear hb2 hrn hrs))
            | (go_at_call 21; go_loud (refine (awake_any w.heap.size pe pl _ (HE.out.below (HB2.out.alloc HB2.out.size _)) (by have := HB2.out.size; simp; omega)).mono ?_; rintro e_ w3 ⟨rfl, hb3⟩; have HB3 := Lib.hid ((HB2.out.alloc HB2.out.size _).trans (hb3.mono (by have := HB2.out.size; simp; omega))); obtain ⟨hc_, hf_⟩ := (⟨fun o => hb3.cell (p := ⟨w2.heap.size, o, none⟩) (by simp), trivial⟩ : (∀ o, w3.cell? ⟨w2.heap.size, o, none⟩ = _) ∧ True); have x3 := (hc_ 3).trans ((blk_cell (heap_alloc_new w2 _) 3).trans rfl); clear hc_ hb3)))
          go_ret
          exact ⟨rfl, HB3.out⟩
      | succ d =>
        have HI2 := Lib.hid (show i + d + 1 = k by have := HI.out; omega)
        have hwi : IntKind.i64.wrap ((i : Int) + 1) = (i : Int) + 1 := IntWalk.i64_in _ (by have := HK13.out; have := HI2.out; omega)
        have hwi2 : wrap64 ((i : Int) + 1) = (i : Int) + 1 := IntWalk.wrap64_in _ (by have := HK13.out; have := HI2.out; omega)
        have hlt : (i : Int) < (k : Int) := by have := HI2.out; omega
        have hsl : t.data.toList.length ≤ 1000000 := by
          rw [HT.out]
          have h1 := vst_len n k i (by have := HI2.out; omega)
          have h2 := Lib.uvarint_length64 HN.out
          have := HK13.out
          omega
        have ka := add1 t 0 hsl
        have kb := add1 t 128 hsl
        by_cases hd : d = 0
        · have hb : ((i : Int) == (k : Int) - 1) = true := by rw [beq_iff_eq]; have := HI2.out; omega
          clear HI hsl
          go_wp2
          go_roundg d
          case measure => exact Nat.lt_succ_self d
          case rel => exact ⟨i + 1, _, rfl, by go_num, Lib.hid (by have := HI2.out; omega), Lib.hid (by rw [data_append, HT.out, vst_end (by have := HI2.out; omega)]), HB⟩
        · have hb : ((i : Int) == (k : Int) - 1) = false := by rw [beq_eq_false_iff_ne]; have := HI2.out; omega
          clear HI hsl
          go_wp2
          go_roundg d
          case measure => exact Nat.lt_succ_self d
          case rel => exact ⟨i + 1, _, rfl, by go_num, Lib.hid (by have := HI2.out; omega), Lib.hid (by rw [data_append, HT.out, vst_on (by have := HI2.out; omega)]), HB⟩
  · have hkp : 0 < (k : Int) := by omega
    have HK := Lib.hid hk
    have HKP := Lib.hid hkp
    clear hk hk0 hn he hmore hs hu hv hc hx ht0
    go_enter Tryd.func11, Tryd.ntmps11
    go_wp2_with (go_at_call 32; go_loud (refine (HC.out w).mono ?_; rintro e_ w1 ⟨rfl, hb1⟩; have HB1 := Lib.hid hb1; clear hb1))
    go_region
    clear hm1 hm2 hm3 hm4 hm5 hm6 hm7 hor kc kadd
    go_wp2
    go_loopg [5, 33] k (fun kq v5 v33 wr => ∃ (i : Nat) (t : ByteArray), v5 = .string t ∧ v33 = .int .i64 i ∧ Hid (i + kq = k) ∧ Hid (t.data.toList = vst n k i) ∧ Hid (Below w.heap.size w wr))
    case atStart => exact ⟨0, _, rfl, rfl, Lib.hid (by omega), Lib.hid (HV0.out (by have := HKP.out; omega)), Lib.hid (HB1.out.alloc HB1.out.size _).drew⟩
    case round =>
      obtain ⟨i, t, rfl, rfl, HI, HT, HB⟩ := hrel
      have hz0 : wrap64 ((k : Int) - 1) = (k : Int) - 1 := by unfold wrap64; have := HK13.out; omega
      have hz1 : IntKind.i64.wrap ((k : Int) - 1) = (k : Int) - 1 := IntWalk.i64_in _ (by have := HK13.out; omega)
      cases gk with
      | zero =>
        obtain rfl : i = k := by have := HI.out; omega
        have HTL := Lib.hid (show t.data.toList.length = (Lib.uvarint n).length + i by rw [HT.out, vst_all, vlong_len])
        have HTS := Lib.hid (show t.size = t.data.toList.length by rw [Array.length_toList]; rfl)
        by_cases hlen : (Lib.uvarint n).length + i ≤ 10
        · have HV := Lib.hid (show vrd 0 0 t.data.toList = some (n, (Lib.uvarint n).length + i) by rw [HT.out, vst_all]; exact vlong_ok n i HN.out hlen)
          obtain ⟨z, hz⟩ : ∃ z, Hid ((Lib.uvarint n).length + i = z) := ⟨_, Lib.hid rfl⟩
          have hsz : t.size = z := by rw [HTS.out, HTL.out, hz.out]
          have HZ := Lib.hid (show z ≤ 10 by have := hz.out; omega)
          have hg : ¬ (10 < (z : Int)) := by have := HZ.out; omega
          rw [hz.out] at HV
          clear hlen
          go_wp2_with (first
            | (go_at_call 20; go_loud ((with_reducible refine (decVal_12_ok w.heap.size pe pl t _ (by rw [hsz]; have := HZ.out; omega) (HE.out.below HB.out) HB.out.size n z HV.out).mono ?_); rintro e_ w2 ⟨rfl, hb2⟩; have HB2 := Lib.hid (HB.out.trans (hb2.mono HB.out.size)); clear hb2))
            | (go_at_call 21; go_loud (refine (awake_any w.heap.size pe pl _ (HE.out.below (HB2.out.alloc HB2.out.size _)) (by have := HB2.out.size; simp; omega)).mono ?_; rintro e_ w3 ⟨rfl, hb3⟩; have HB3 := Lib.hid ((HB2.out.alloc HB2.out.size _).trans (hb3.mono (by have := HB2.out.size; simp; omega))); obtain ⟨hc_, hf_⟩ := (⟨fun o => hb3.cell (p := ⟨w2.heap.size, o, none⟩) (by simp), trivial⟩ : (∀ o, w3.cell? ⟨w2.heap.size, o, none⟩ = _) ∧ True); have x3 := (hc_ 3).trans ((blk_cell (heap_alloc_new w2 _) 3).trans rfl); clear hc_ hb3)))
          go_ret
          exact ⟨rfl, HB3.out⟩
        · have HV := Lib.hid (show vrd 0 0 t.data.toList = none by rw [HT.out, vst_all]; exact vlong_bad n i HN.out hlen)
          obtain ⟨z, hz⟩ : ∃ z, Hid ((Lib.uvarint n).length + i = z) := ⟨_, Lib.hid rfl⟩
          have hsz : t.size = z := by rw [HTS.out, HTL.out, hz.out]
          have HZ := Lib.hid (show z ≤ 1000 by have := hz.out; have := HK13.out; have := Lib.uvarint_length64 HN.out; omega)
          have hg : 10 < (z : Int) := by have := hz.out; omega
          clear hlen
          go_wp2_with (first
            | (go_at_call 20; go_loud ((with_reducible refine (decVal_12_bad w.heap.size pe pl t _ (by rw [hsz]; have := HZ.out; omega) (HE.out.below HB.out) HB.out.size HV.out).mono ?_); rintro e_ w2 ⟨rn, rs, rfl, hrn, hrs, hb2⟩; have hne1 := ne_empty hrs; have HB2 := Lib.hid (HB.out.trans (hb2.mono HB.out.size)); clear hb2 hrn hrs))
            | (go_at_call 21; go_loud (refine (awake_any w.heap.size pe pl _ (HE.out.below (HB2.out.alloc HB2.out.size _)) (by have := HB2.out.size; simp; omega)).mono ?_; rintro e_ w3 ⟨rfl, hb3⟩; have HB3 := Lib.hid ((HB2.out.alloc HB2.out.size _).trans (hb3.mono (by have := HB2.out.size; simp; omega))); obtain ⟨hc_, hf_⟩ := (⟨fun o => hb3.cell (p := ⟨w2.heap.size, o, none⟩) (by simp), trivial⟩ : (∀ o, w3.cell? ⟨w2.heap.size, o, none⟩ = _) ∧ True); have x3 := (hc_ 3).trans ((blk_cell (heap_alloc_new w2 _) 3).trans rfl); clear hc_ hb3)))
          go_ret
          exact ⟨rfl, HB3.out⟩
      | succ d =>
        have HI2 := Lib.hid (show i + d + 1 = k by have := HI.out; omega)
        have hwi : IntKind.i64.wrap ((i : Int) + 1) = (i : Int) + 1 := IntWalk.i64_in _ (by have := HK13.out; have := HI2.out; omega)
        have hwi2 : wrap64 ((i : Int) + 1) = (i : Int) + 1 := IntWalk.wrap64_in _ (by have := HK13.out; have := HI2.out; omega)
        have hlt : (i : Int) < (k : Int) := by have := HI2.out; omega
        have hsl : t.data.toList.length ≤ 1000000 := by
          rw [HT.out]
          have h1 := vst_len n k i (by have := HI2.out; omega)
          have h2 := Lib.uvarint_length64 HN.out
          have := HK13.out
          omega
        have ka := add1 t 0 hsl
        have kb := add1 t 128 hsl
        by_cases hd : d = 0
        · have hb : ((i : Int) == (k : Int) - 1) = true := by rw [beq_iff_eq]; have := HI2.out; omega
          clear HI hsl
          go_wp2
          go_roundg d
          case measure => exact Nat.lt_succ_self d
          case rel => exact ⟨i + 1, _, rfl, by go_num, Lib.hid (by have := HI2.out; omega), Lib.hid (by rw [data_append, HT.out, vst_end (by have := HI2.out; omega)]), HB⟩
        · have hb : ((i : Int) == (k : Int) - 1) = false := by rw [beq_eq_false_iff_ne]; have := HI2.out; omega
          clear HI hsl
          go_wp2
          go_roundg d
          case measure => exact Nat.lt_succ_self d
          case rel => exact ⟨i + 1, _, rfl, by go_num, Lib.hid (by have := HI2.out; omega), Lib.hid (by rw [data_append, HT.out, vst_on (by have := HI2.out; omega)]), HB⟩
theorem varLong_row (pe pl : Addr) (n more : Int) (w : World) (hn : (Lit.int .u64 n).wf = true) (hm : (Lit.int .u8 more).wf = true) (he : Env w.heap.size pe pl w) :
    Calls Tryd.prog 11 #[.int .u64 n, .int .u8 more] w fun e w' => e = .returned (.bool true) ∧ Below w.heap.size w w' := by
  obtain ⟨h0, h1⟩ := u64_bd hn
  obtain ⟨g0, g1⟩ := u8_bd hm
  obtain ⟨k, rfl⟩ := Int.eq_ofNat_of_zero_le h0
  obtain ⟨m, rfl⟩ := Int.eq_ofNat_of_zero_le g0
  exact varLong_walk pe pl k (m % 13) m w (by omega) (by omega) rfl he
end Go.Proofs.YtgdbeiadlgkedaaDoor
