/- Contracts: the reference reads a number by sevens of bits. -/
import Derived.Test.YtgdbeiadlgkedaaDoorL10
namespace Go.Proofs.YtgdbeiadlgkedaaDoor
open Go.RowKit
set_option linter.unusedVariables false
set_option linter.unusedSimpArgs false

def cvr (R : Option (Nat × Nat)) : Value := match R with
  | some (v, k) => .tuple #[.int .u64 (v : Nat), .int .i64 (k : Nat), .int .i64 0]
  | none => .tuple #[.int .u64 0, .int .i64 0, .int .i64 1]
theorem get_at (s : ByteArray) (i : Nat) (c : UInt8) (r : List UInt8) (h : s.data.toList.drop i = c :: r) : ∀ hm : i < s.size, s[i]'hm = c := by
  intro hm
  have h1 : s.data.toList[i]? = some c := by
    have := congrArg (fun l => l[0]?) h
    simpa [List.getElem?_drop] using this
  obtain ⟨h3, h4⟩ := List.getElem?_eq_some_iff.1 h1
  rw [← h4]; rfl
set_option maxHeartbeats 8000000 in
set_option maxRecDepth 100000 in
theorem codVarRead_any (s : ByteArray) (w : World) (hs : s.size ≤ 4294967296) (R : Option (Nat × Nat)) (hR : vrd 0 0 s.data.toList = R) :
    Calls Tryd.prog 37 #[.string s] w fun e w' => e = .returned (cvr R) ∧ w = w' := by
  obtain ⟨N, hN⟩ : ∃ N, N = s.size := ⟨_, rfl⟩
  have hN2 := hN.symm
  have HL := Lib.hid (show s.data.toList.length = N by rw [Array.length_toList]; exact hN.symm)
  have HS := Lib.hid hs
  have HR := Lib.hid hR
  clear hs hR hN
  go_enter Tryd.func37, Tryd.ntmps37
  go_wp2
  go_loopg [5, 9] N (fun kq v5 v9 wr => ∃ (i z : Nat), v5 = .int .u64 z ∧ v9 = .int .i64 i ∧ Hid (kq + i = N) ∧ Hid (vrd i z (s.data.toList.drop i) = R ∧ i ≤ 9 ∧ z < 2 ^ (7 * i)) ∧ w = wr)
  case atStart => exact ⟨0, 0, rfl, rfl, Lib.hid rfl, Lib.hid ⟨by rw [List.drop_zero]; exact HR.out, by omega, by decide⟩, rfl⟩
  case round =>
    clear HR
    obtain ⟨i, z, rfl, rfl, HI, HV, hw⟩ := hrel
    subst hw
    have hw1 : wrap64 ((i : Int) + 1) = (i : Int) + 1 := IntWalk.wrap64_in _ (by have := HV.out; omega)
    have hw2 : IntKind.i64.wrap ((i : Int) + 1) = (i : Int) + 1 := IntWalk.i64_in _ (by have := HV.out; omega)
    cases gk with
    | zero =>
      obtain rfl : i = N := by have := HI.out; omega
      have hR : R = none := by rw [← HV.out.1, List.drop_eq_nil_of_le (by rw [HL.out]; omega)]; rfl
      have HR := Lib.hid hR
      clear hR hw1 hw2
      go_wp2
      go_ret3
      exact ⟨by rw [HR.out]; rfl, rfl⟩
    | succ d =>
      have hlt : (i : Int) < (N : Int) := by have := HI.out; omega
      have hlt2 : i < N := by omega
      obtain ⟨c, rest, hcr⟩ : ∃ c rest, s.data.toList.drop i = c :: rest := ⟨_, _, List.drop_eq_getElem_cons (by rw [HL.out]; omega)⟩
      have hg := get_at s i c rest hcr
      have hc256 := c.toNat_lt
      have HCR := Lib.hid hcr
      obtain ⟨n, hn⟩ : ∃ n, Hid (c.toNat = n) := ⟨_, Lib.hid rfl⟩
      obtain ⟨b, hb⟩ : ∃ b, Hid (n % 128 = b) := ⟨_, Lib.hid rfl⟩
      obtain ⟨sh, hsh⟩ : ∃ sh, Hid (7 * i = sh) := ⟨_, Lib.hid rfl⟩
      have hlt3 : i < s.size := by omega
      have qa : bits .and .u8 (n : Int) 127 = (b : Int) := by rw [← hn.out, u8_and127 c.toNat hc256, hn.out, hb.out]
      have qb : IntKind.u64.wrap (b : Int) = (b : Int) := by rw [IntKind.wrap_u64]; have := hb.out; omega
      have qs : wrap64 (7 * (i : Int)) = (sh : Int) := by rw [IntWalk.wrap64_in _ (by have := HV.out; omega)]; have := hsh.out; omega
      have qs2 : IntKind.i64.wrap (7 * (i : Int)) = (sh : Int) := by rw [IntWalk.i64_in _ (by have := HV.out; omega)]; have := hsh.out; omega
      have hsh63 : (sh : Int) < 64 := by have := hsh.out; have := HV.out; omega
      have hsh64 : sh < 64 := by omega
      have hcn : c.toNat = n := hn.out
      by_cases h9 : i = 9
      · have hi9 : ((i : Int) == 9) = true := by rw [beq_iff_eq]; omega
        by_cases h1 : 1 < n
        · have h1' : 1 < (n : Int) := by omega
          have HR := Lib.hid (show R = none by rw [← HV.out.1, HCR.out]; exact vrd_bad (.inr ⟨h9, by omega⟩))
          clear h9 h1 hcr hc256 qa qb qs qs2 hsh63 hsh64 hw1 hw2
          go_wp2
          go_ret3
          exact ⟨by rw [HR.out]; rfl, rfl⟩
        · have h1' : ¬ 1 < (n : Int) := by omega
          have h2' : (n : Int) < 128 := by omega
          have hi10 : ¬ 9 < (i : Int) := by omega
          obtain ⟨V, hV⟩ : ∃ V, Hid (z + b * 2 ^ sh = V) := ⟨_, Lib.hid rfl⟩
          have hbn : b = n := by have := hb.out; omega
          have hsh9 : sh = 63 := by have := hsh.out; omega
          have qv : bits .or .u64 (z : Int) (IntKind.u64.wrap ((b : Int) * 2 ^ sh)) = (V : Int) := by
            rw [orv z b sh (by rw [← hsh.out]; exact HV.out.2.2) (by omega) (by
              rw [hsh9]
              have e : (2 : Nat) ^ 63 = 9223372036854775808 := by decide
              have : b * 2 ^ 63 ≤ 1 * 2 ^ 63 := Nat.mul_le_mul_right _ (by omega)
              omega), hV.out]
          have HR := Lib.hid (show R = some (V, i + 1) by
            rw [← HV.out.1, HCR.out, vrd_end (by omega) (by omega), ← hV.out, hsh.out, hbn, hcn])
          clear h9 h1 hcr hc256 hbn hsh9
          go_wp2
          go_ret3
          exact ⟨by rw [HR.out]; rfl, rfl⟩
      · have hi9 : ((i : Int) == 9) = false := by rw [beq_eq_false_iff_ne]; omega
        have hi10 : ¬ 9 < (i : Int) := by have := HV.out; omega
        obtain ⟨V, hV⟩ : ∃ V, Hid (z + b * 2 ^ sh = V) := ⟨_, Lib.hid rfl⟩
        have hb1 : b < 128 := by have := hb.out; omega
        have qv : bits .or .u64 (z : Int) (IntKind.u64.wrap ((b : Int) * 2 ^ sh)) = (V : Int) := by
          rw [orv z b sh (by rw [← hsh.out]; exact HV.out.2.2) (by have := hsh.out; have := HV.out; omega) (by rw [← hsh.out]; exact mul_pow_lt b i hb1 (by have := HV.out; omega)), hV.out]
        by_cases h128 : n < 128
        · have h2' : (n : Int) < 128 := by omega
          have hbn : b = n := by have := hb.out; omega
          have HR := Lib.hid (show R = some (V, i + 1) by
            rw [← HV.out.1, HCR.out, vrd_end (by have := HV.out; omega) (by omega), ← hV.out, hsh.out, hbn, hcn])
          clear h9 h128 hcr hc256 hbn hb1
          go_wp2
          go_ret3
          exact ⟨by rw [HR.out]; rfl, rfl⟩
        · have h2' : ¬ (n : Int) < 128 := by omega
          have HNX := Lib.hid (show vrd (i + 1) V rest = R ∧ i + 1 ≤ 9 ∧ V < 2 ^ (7 * (i + 1)) by
            refine ⟨?_, by have := HV.out; omega, ?_⟩
            · rw [← HV.out.1, HCR.out, vrd_on (by have := HV.out; omega) (by omega), ← hV.out, hsh.out, hcn, hb.out]
            · rw [← hV.out, ← hsh.out, pow7]
              have := HV.out.2.2
              have : b * 2 ^ (7 * i) ≤ 127 * 2 ^ (7 * i) := Nat.mul_le_mul_right _ (by omega)
              omega)
          have HDR := Lib.hid (show s.data.toList.drop (i + 1) = rest by rw [← List.drop_drop, HCR.out]; rfl)
          clear h9 h128 hcr hc256 hb1
          go_wp2
          go_roundg d
          case measure => exact Nat.lt_succ_self d
          case rel => exact ⟨i + 1, V, rfl, by go_num, Lib.hid (by have := HI.out; omega), Lib.hid (by rw [HDR.out]; exact HNX.out), rfl⟩
end Go.Proofs.YtgdbeiadlgkedaaDoor
