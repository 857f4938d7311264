/- Contracts of the reference: numbers by sevens of bits, written and read. -/
import Derived.Test.YtgdbeiadlgkedaaDoorWv
import Derived.Test.YtgdbeiadlgkedaaDoorRv
import Derived.Laws.IdiomStrings
import Derived.Laws.Concat
namespace Go.Proofs.YtgdbeiadlgkedaaDoor
open Go.RowKit
set_option linter.unusedVariables false
set_option linter.unusedSimpArgs false

/-- 'string([]byte{x})'. -/
theorem conv1 (x : UInt8) (n : Nat) (hx : x.toNat = n) : ∀ W : World, (convert 29 9 (.slice (some ⟨W.heap.size, 0, none⟩) 1 1)).run Tryd.prog (W.alloc (.cells #[.int .u8 (n : Int)] 5)) = .ok (.string ⟨#[x]⟩) (W.alloc (.cells #[.int .u8 (n : Int)] 5)) := by
  intro W
  have := run_convert_bytes_back (P := Tryd.prog) (W.alloc (.cells #[.int .u8 (n : Int)] 5)) 29 9 5 ⟨W.heap.size, 0, none⟩ 1 [x] Tryd.underlying29 Tryd.underlying5 Tryd.underlying9 (fun j hj => by
    obtain rfl : j = 0 := by simpa using hj
    rw [Lib.addr_add]
    subst hx
    exact (blk_cell (heap_alloc_new W _) 0).trans rfl)
  exact this
theorem str_ext {s : ByteArray} {l : List UInt8} (h : s.data.toList = l) : s = ⟨l.toArray⟩ := by
  subst h
  cases s; simp
theorem data_append (s t : ByteArray) : (s ++ t).data.toList = s.data.toList ++ t.data.toList := by simp
theorem add1 (s : ByteArray) (x : UInt8) (h : s.data.toList.length ≤ 1000000) : ∀ W : World, (Op.stringOp .add s ⟨#[x]⟩).run Tryd.prog W = .ok (.string (s ++ ⟨#[x]⟩)) W := fun W =>
  run_string_add_sum W s ⟨#[x]⟩ (by rw [Array.length_toList] at h; show s.data.size + 1 ≤ _; omega)
theorem ret_str {s t : ByteArray} (h : s = t) : Ending.returned (.string s) = .returned (.string t) := by rw [h]
set_option maxHeartbeats 4000000 in
set_option maxRecDepth 100000 in
theorem codVarint_any (v : Nat) (w : World) (hv : v < 18446744073709551616) :
    Calls Tryd.prog 32 #[.int .u64 v] w fun e w' => e = .returned (.string ⟨(Lib.uvarint v).toArray⟩) ∧ Below w.heap.size w w' := by
  have HV := Lib.hid hv
  clear hv
  go_enter Tryd.func32, Tryd.ntmps32
  go_wp2
  go_loopg [0, 3] v (fun kq v0 v3 wr => ∃ (s : ByteArray), v0 = .int .u64 kq ∧ v3 = .string s ∧ Hid (s.data.toList ++ Lib.uvarint kq = Lib.uvarint v) ∧ Hid (Below w.heap.size w wr) ∧ Hid (kq < 18446744073709551616))
  case atStart => exact ⟨⟨#[]⟩, rfl, rfl, Lib.hid rfl, Lib.hid (Below.refl _ w), HV⟩
  case round =>
    obtain ⟨s, rfl, rfl, HS, HB, HU⟩ := hrel
    have hsl : s.data.toList.length ≤ 1000000 := by
      have h1 := congrArg List.length HS.out
      rw [List.length_append] at h1
      have := Lib.uvarint_length64 HV.out; omega
    by_cases h : gk < 128
    · have q1 : (gk : Int) % 256 = (gk : Int) := by omega
      have kc := conv1 gk.toUInt8 gk (u8_toNat (by omega))
      have HR := Lib.hid (show s ++ ⟨#[gk.toUInt8]⟩ = (⟨(Lib.uvarint v).toArray⟩ : ByteArray) from str_ext (by rw [data_append, ← HS.out, Lib.uvarint_small h]))
      have h1 : (gk : Int) < 128 := by omega
      have kadd := add1 s gk.toUInt8 hsl
      clear h hsl
      go_wp2
      go_ret
      exact ⟨ret_str HR.out, HB.out.alloc HB.out.size _⟩
    · obtain ⟨d, hd⟩ : ∃ d, Hid (gk % 128 + 128 = d) := ⟨_, Lib.hid rfl⟩
      obtain ⟨q, hq⟩ : ∃ q, Hid (gk / 128 = q) := ⟨_, Lib.hid rfl⟩
      obtain ⟨y, hy⟩ : ∃ y, Hid (gk % 256 = y) := ⟨_, Lib.hid rfl⟩
      have q1 : (gk : Int) % 256 = (y : Int) := by have := hy.out; omega
      have q3 : bits .or .u8 (y : Int) 128 = (d : Int) := by
        rw [Lib.u8_or128_any _ (by omega) (by have := hy.out; omega)]; have := hy.out; have := hd.out; omega
      have q2 : (gk : Int) / 128 = (q : Int) := by have := hq.out; omega
      have kc := conv1 d.toUInt8 d (u8_toNat (by have := hd.out; omega))
      have HR := Lib.hid (show (s ++ ⟨#[d.toUInt8]⟩ : ByteArray).data.toList ++ Lib.uvarint q = Lib.uvarint v by
        rw [data_append, ← HS.out, Lib.uvarint_big (x := gk) (by omega), ← hd.out, ← hq.out, List.append_assoc]; rfl)
      have HQ := Lib.hid (show q < gk ∧ q < 18446744073709551616 by have := hq.out; have := HU.out; omega)
      have h1 : 128 ≤ (gk : Int) := by omega
      have kadd := add1 s d.toUInt8 hsl
      clear h hsl
      go_wp2
      go_roundg q
      case measure => exact HQ.out.1
      case rel => exact ⟨_, rfl, rfl, HR, Lib.hid (HB.out.alloc HB.out.size _), Lib.hid HQ.out.2⟩
end Go.Proofs.YtgdbeiadlgkedaaDoor
