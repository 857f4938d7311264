/- Contracts and plain laws, several texts in one. -/
import Derived.Test.YtgdbeiadlgkedaaGreatDoorMWindowOne0
import Derived.Test.YtgdbeiadlgkedaaGreatDoorMWindowOne1
import Derived.Test.YtgdbeiadlgkedaaGreatDoorMWindowOne4
import Derived.Test.YtgdbeiadlgkedaaGreatDoorMWindowOne6
import Derived.Deep.RegionHeld3
import Derived.Lib.Varint
set_option linter.unusedVariables false
set_option linter.unusedSimpArgs false
namespace Go.Proofs.YtgdbeiadlgkedaaGreatDoor
open Go.RowKit PFnWindowOne Go.Proofs.YtgdbeiadlgkedaaGreatDoorW.PrintWords Go.Proofs.YtgdbeiadlgkedaaGreatDoorW.PrintLast Go.Proofs.YtgdbeiadlgkedaaGreatDoorW.PrintMore
theorem C_one23 {w : World} {g : Nat} {T : TypeId} (a : Bool) (s e : Int) (h : w.heap[g]? = some (.cells #[.bool a, .int .i64 s, .int .i64 e] T (0, 0))) : Kd.C k23 w (some ⟨g, 0, none⟩) [(⟨a, s, e⟩ : S23)].length [⟨a, s, e⟩] := by
  refine ⟨rfl, by simp, fun _ => ⟨⟨g, 0, none⟩, rfl, fun j p hp => ?_⟩⟩
  have hj : j = 0 := by
    by_cases hj : j = 0
    · exact hj
    · rw [List.getElem?_eq_none (by simp; omega)] at hp; cases hp
  subst hj
  have hp' : (⟨a, s, e⟩ : S23) = p := by simpa using hp
  subst hp'
  refine ⟨_, rfl, k23_mk w _, fun i u hu => ?_⟩
  rw [Lib.addr_add, blk_cell h]
  have : (#[Value.bool a, .int .i64 s, .int .i64 e])[i]? = some u := by rw [← hu]; simp
  simpa using this
theorem int1_f (s e : Int) : impl_intervals.f 2 1 [(⟨false, s, e⟩ : S23)] = some true := by
  unfold impl_intervals.f
  have h0 : rd_T23 [(⟨false, s, e⟩ : S23)] 0 = ⟨false, s, e⟩ := rfl
  rw [impl_intervals.l0]
  simp [h0, impl_intervals.l0, wrap64]
theorem int0_f (a : Bool) (s e : Int) : impl_intervals.f 2 0 [(⟨a, s, e⟩ : S23)] = some true := by
  unfold impl_intervals.f
  rw [impl_intervals.l0]
  simp [impl_intervals.l0, wrap64]
theorem conv_b77 (W : World) (d n c : Nat) (l : List UInt8) (h : At W ⟨d, 0, none⟩ l) (hl : l.length = n) :
    (convert 77 9 (.slice (some ⟨d, 0, none⟩) n c)).run Tryz.prog W = .ok (.string ⟨l.toArray⟩) W := by
  subst hl
  exact run_convert_bytes_back (P := Tryz.prog) W 77 9 5 ⟨d, 0, none⟩ c l Tryz.underlying77 Tryz.underlying5 Tryz.underlying9 (fun j hj => by
    exact h j _ (List.getElem?_eq_getElem hj))
def D1 (w0 : World) (cs : Array Value) (T : TypeId) (w' : World) : Prop := w'.heap[w0.heap.size]? = some (.cells cs T (0, 0)) ∧ Below w0.heap.size w0 w'
theorem D1.step {w0 x y : World} {cs : Array Value} {T : TypeId} (h : D1 w0 cs T x) (hb : Below x.heap.size x y) : D1 w0 cs T y := ⟨blk_below h.1 hb, below_then h.2 h.2.size hb⟩
theorem D1.of3 {w0 x : World} {v0 v1 v2 : Value} {T : TypeId} (h : D1 w0 #[v0, v1, v2] T x) : x.cell? ⟨w0.heap.size, 0, none⟩ = some v0 ∧ x.cell? ⟨w0.heap.size, 1, none⟩ = some v1 ∧ x.cell? ⟨w0.heap.size, 2, none⟩ = some v2 ∧ Aside0 (D1 w0 #[v0, v1, v2] T x) :=
  ⟨(blk_cell h.1 0).trans rfl, (blk_cell h.1 1).trans rfl, (blk_cell h.1 2).trans rfl, ⟨h⟩⟩
theorem word_nilZ (w : World) : Calls Tryz.prog 41 #[.nilIface] w fun e w' => e = .returned (.string ⟨#[]⟩) ∧ w' = w := by
  go_enter Tryz.func41, Tryz.ntmps41
  go_wp2
  go_ret
  exact ⟨rfl, rfl⟩
set_option maxHeartbeats 8000000 in
set_option maxRecDepth 100000 in
theorem encOne_1 (s e : Int) (w : World) (hs : -9223372036854775808 ≤ s ∧ s ≤ 9223372036854775807) (he : -9223372036854775808 ≤ e ∧ e ≤ 9223372036854775807) :
    Calls Tryz.prog 12 #[.int .i64 1, .agg #[.bool false, .int .i64 s, .int .i64 e]] w fun x w' => x = .returned (.tuple #[.string ⟨(wbytes s e).toArray⟩, .string ⟨#[]⟩]) ∧ Below w.heap.size w w' := by
  have hr := heap_alloc_new (w.alloc (.cells #[.bool false, .int .i64 s, .int .i64 e] 23)) (.cells #[.bool false, .int .i64 s, .int .i64 e] 23)
  rw [World.size_alloc] at hr
  have hi := impl_intervals.calls 2 1 _ 1 _ true _ (C_one23 false s e hr) (Nat.le_refl _) (int1_f s e)
  rw [List.length_singleton] at hi
  have HI := Lib.hid hi
  have hx := blk_alloc (heap_alloc_new w (.cells #[.bool false, .int .i64 s, .int .i64 e] 23)) (.cells #[.bool false, .int .i64 s, .int .i64 e] 23)
  have HX := Lib.hid hx
  have HB := Lib.hid (below_alloc (below_alloc (Below.refl w.heap.size w) (.cells #[.bool false, .int .i64 s, .int .i64 e] 23)) (.cells #[.bool false, .int .i64 s, .int .i64 e] 23))
  have HH := Lib.hid (And.intro hs he)
  clear hr hx hs he hi
  go_enter Tryz.func12, Tryz.ntmps12
  go_wp2_with (go_at_call 36; go_loud ((with_reducible refine HI.out.mono ?_); rintro e_ w1 ⟨rfl, hb⟩; have HX1 := Lib.hid (blk_below HX.out hb); have HB1 := Lib.hid (below_then HB.out HB.out.size hb); clear hb))
  have KD : D1 w #[.bool false, .int .i64 s, .int .i64 e] 23 w1.drew := ⟨HX1.out, below_drew HB1.out⟩
  have K0 := D1.of3 KD
  have HK := Lib.hid KD
  clear KD
  go_region_held3 (fun w' => w'.cell? ⟨w.heap.size, 0, none⟩ = some (.bool false) ∧ w'.cell? ⟨w.heap.size, 1, none⟩ = some (.int .i64 s) ∧ w'.cell? ⟨w.heap.size, 2, none⟩ = some (.int .i64 e) ∧ Aside0 (D1 w #[.bool false, .int .i64 s, .int .i64 e] 23 w')) (assumption) (first
    | (go_at_call 39; go_loud (refine (wcoder_1 _).mono ?_; rintro e_ w2 ⟨rfl, hw⟩; have hb : Below w1.drew.heap.size w1.drew w2 := (by rw [hw]; exact (Below.refl _ _).alloc (Nat.le_refl _) _); have HC2 := Lib.hid (show w2.heap[w1.heap.size]? = some (.cells #[.string iwc, .string ⟨#[]⟩] 182 (0, 0)) by rw [hw]; exact heap_alloc_new w1.drew _); have HK2 := Lib.hid (D1.step HK.out hb); have K2 := D1.of3 HK2.out; clear hw hb))
    | (go_at_call 38; go_loud (refine (wenc_1 w1.heap.size w2 HC2.out).mono ?_; rintro e_ w3 ⟨rfl, hw⟩; have hb : Below w2.heap.size w2 w3 := (by rw [hw]; exact (Below.refl _ _).alloc (Nat.le_refl _) _); have HK3 := Lib.hid (D1.step HK2.out hb); have K3 := D1.of3 HK3.out; clear hw hb))
    | (go_at_call 40; go_loud (refine (win_1 s e w3).mono ?_; rintro e_ w4 ⟨rfl, hw⟩; have hb : Below w3.heap.size w3 w4 := (by rw [hw]; exact (Below.refl _ _).alloc (Nat.le_refl _) _); have HK4 := Lib.hid (D1.step HK3.out hb); have K4 := D1.of3 HK4.out; clear hw hb))
    | (go_at_call 37; go_loud (refine (encWindow_1 w2.heap.size s e w4 HH.out.1 HH.out.2).mono ?_; rintro e_ w5 ⟨g, c, rfl, hat, hb⟩; have HA := Lib.hid hat; have HK5 := Lib.hid (D1.step HK4.out hb); have K5 := D1.of3 HK5.out; clear hat hb)))
  all_goals
    have hc := fun q => conv_b77 (w5.drewN q) g (wbytes s e).length c (wbytes s e) HA.out rfl
    have hc0 := conv_b77 w5 g (wbytes s e).length c (wbytes s e) HA.out rfl
    have hc1 := conv_b77 w5.drew g (wbytes s e).length c (wbytes s e) HA.out rfl
    obtain ⟨k0, k1, k2, K6⟩ := K5
    clear K2 K3 K4 K0 K6 HK HK2 HK3 HK4 HC2 HI HX HX1
    refine (by assumption : ∀ (a : Act) (w : World), Code.wp _ _ _ a w → _) _ _ ?_
    go_wp2
    go_quiet ((go_at_call 41; exact Calls.quiet_of_same (word_nilZ _)))
    go_wp2
    go_ret2
    exact ⟨rfl, below_drewN HK5.out.2 _⟩
end Go.Proofs.YtgdbeiadlgkedaaGreatDoor
set_option linter.unusedVariables false
set_option linter.unusedSimpArgs false
namespace Go.Proofs.YtgdbeiadlgkedaaGreatDoor
open Go.RowKit PFnWindowOne Go.Proofs.YtgdbeiadlgkedaaGreatDoorW.PrintWords Go.Proofs.YtgdbeiadlgkedaaGreatDoorW.PrintLast Go.Proofs.YtgdbeiadlgkedaaGreatDoorW.PrintMore
theorem conv_n77 : ∀ (W : World), (convert 77 9 (.slice none 0 0)).run Tryz.prog W = .ok (.string ⟨#[]⟩) W := fun W => by kernel_rfl
set_option maxHeartbeats 2000000 in
set_option maxRecDepth 100000 in
theorem bytes_nil (b : Nat) (w : World) (h : w.heap[b]? = some (.cells #[.slice none 0 0, .int .i64 0, .int .i8 0] 105 (0, 0))) :
    Calls Tryz.prog 93 #[.pointer (some ⟨b, 0, none⟩)] w fun e w' => e = .returned (.slice none 0 0) ∧ ∃ q, w' = w.drewN q := by
  have c0 : w.cell? ⟨b, 0, none⟩ = some (.slice none 0 0) := (blk_cell h 0).trans rfl
  have c1 : w.cell? ⟨b, 1, none⟩ = some (.int .i64 0) := (blk_cell h 1).trans rfl
  clear h
  go_enter Tryz.func93, Tryz.ntmps93
  go_wp2
  go_quiet (fail)
  go_wp2
  go_ret
  exact ⟨rfl, _, rfl⟩
theorem mth_0 (a : Nat) : ∀ W : World, (nilAhead 83 186 (.pointer (some ⟨a, 0, none⟩)) "EncodeSingle").run Tryz.prog W = .ok (some false) W := fun _ => by kernel_rfl
theorem encSingle_0 (a : Option Addr) (v u : Value) (w : World) : Calls Tryz.prog 147 #[.pointer a, v, u] w fun x w' => x = .returned .nilIface ∧ w' = w := by
  go_enter Tryz.func147, Tryz.ntmps147
  go_wp2
  go_ret
  exact ⟨rfl, rfl⟩
set_option maxHeartbeats 4000000 in
set_option maxRecDepth 100000 in
theorem encWindow_0 (a : Nat) (s e : Int) (w : World) :
    Calls Tryz.prog 37 #[.iface 186 (.pointer (some ⟨a, 0, none⟩)), winI s e] w fun x w' => x = .returned (.tuple #[.slice none 0 0, .nilIface]) ∧ Below w.heap.size w w' := by
  have na := mth_0 a
  have HC := Lib.hid (bytes_nil w.heap.size (w.alloc (.cells #[.slice none 0 0, .int .i64 0, .int .i8 0] 105)) (heap_alloc_new w _))
  go_enter Tryz.func37, Tryz.ntmps37
  go_wp2_with (first | (go_at_call 147; go_loud (refine (encSingle_0 _ _ _ _).mono ?_; rintro e_ w1 ⟨rfl, rfl⟩)) | (go_at_call 93; go_loud (refine HC.out.mono ?_; rintro e_ w2 ⟨rfl, q, hq⟩; have HQ := Lib.hid hq; clear hq)))
  go_ret2
  exact ⟨rfl, by rw [HQ.out]; exact below_drewN ((Below.refl w.heap.size w).alloc (Nat.le_refl _) _) q⟩
set_option maxHeartbeats 8000000 in
set_option maxRecDepth 100000 in
theorem encOne_0 (s e : Int) (w : World) :
    Calls Tryz.prog 12 #[.int .i64 0, .agg #[.bool false, .int .i64 s, .int .i64 e]] w fun x w' => x = .returned (.tuple #[.string ⟨#[]⟩, .string ⟨#[]⟩]) ∧ Below w.heap.size w w' := by
  have hr := heap_alloc_new (w.alloc (.cells #[.bool false, .int .i64 s, .int .i64 e] 23)) (.cells #[.bool false, .int .i64 s, .int .i64 e] 23)
  rw [World.size_alloc] at hr
  have hi := impl_intervals.calls 2 0 _ 1 _ true _ (C_one23 false s e hr) (Nat.le_refl _) (int0_f false s e)
  rw [List.length_singleton] at hi
  have HI := Lib.hid hi
  have hx := blk_alloc (heap_alloc_new w (.cells #[.bool false, .int .i64 s, .int .i64 e] 23)) (.cells #[.bool false, .int .i64 s, .int .i64 e] 23)
  have HX := Lib.hid hx
  have HB := Lib.hid (below_alloc (below_alloc (Below.refl w.heap.size w) (.cells #[.bool false, .int .i64 s, .int .i64 e] 23)) (.cells #[.bool false, .int .i64 s, .int .i64 e] 23))
  clear hr hx hi
  go_enter Tryz.func12, Tryz.ntmps12
  go_wp2_with (go_at_call 36; go_loud ((with_reducible refine HI.out.mono ?_); rintro e_ w1 ⟨rfl, hb⟩; have HX1 := Lib.hid (blk_below HX.out hb); have HB1 := Lib.hid (below_then HB.out HB.out.size hb); clear hb))
  have KD : D1 w #[.bool false, .int .i64 s, .int .i64 e] 23 w1.drew := ⟨HX1.out, below_drew HB1.out⟩
  have K0 := D1.of3 KD
  have HK := Lib.hid KD
  clear KD
  go_region_held3 (fun w' => w'.cell? ⟨w.heap.size, 0, none⟩ = some (.bool false) ∧ w'.cell? ⟨w.heap.size, 1, none⟩ = some (.int .i64 s) ∧ w'.cell? ⟨w.heap.size, 2, none⟩ = some (.int .i64 e) ∧ Aside0 (D1 w #[.bool false, .int .i64 s, .int .i64 e] 23 w')) (assumption) (first
    | (go_at_call 39; go_loud (refine (wcoder_0 _).mono ?_; rintro e_ w2 ⟨rfl, hw⟩; have hb : Below w1.drew.heap.size w1.drew w2 := (by rw [hw]; exact (Below.refl _ _).alloc (Nat.le_refl _) _); have HC2 := Lib.hid (show w2.heap[w1.heap.size]? = some (.cells #[.string gwc, .string ⟨#[]⟩] 182 (0, 0)) by rw [hw]; exact heap_alloc_new w1.drew _); have HK2 := Lib.hid (D1.step HK.out hb); have K2 := D1.of3 HK2.out; clear hw hb))
    | (go_at_call 38; go_loud (refine (wenc_0 w1.heap.size w2 HC2.out).mono ?_; rintro e_ w3 ⟨rfl, hw⟩; have hb : Below w2.heap.size w2 w3 := (by rw [hw]; exact (Below.refl _ _).alloc (Nat.le_refl _) _); have HK3 := Lib.hid (D1.step HK2.out hb); have K3 := D1.of3 HK3.out; clear hw hb))
    | (go_at_call 40; go_loud (refine (win_1 s e w3).mono ?_; rintro e_ w4 ⟨rfl, hw⟩; have hb : Below w3.heap.size w3 w4 := (by rw [hw]; exact (Below.refl _ _).alloc (Nat.le_refl _) _); have HK4 := Lib.hid (D1.step HK3.out hb); have K4 := D1.of3 HK4.out; clear hw hb))
    | (go_at_call 37; go_loud (refine (encWindow_0 w2.heap.size s e w4).mono ?_; rintro e_ w5 ⟨rfl, hb⟩; have HK5 := Lib.hid (D1.step HK4.out hb); have K5 := D1.of3 HK5.out; clear hb)))
  all_goals
    have hc := conv_n77
    obtain ⟨k0, k1, k2, K6⟩ := K5
    clear K2 K3 K4 K0 K6 HK HK2 HK3 HK4 HC2 HI HX HX1
    refine (by assumption : ∀ (a : Act) (w : World), Code.wp _ _ _ a w → _) _ _ ?_
    go_wp2
    go_quiet ((go_at_call 41; exact Calls.quiet_of_same (word_nilZ _)))
    go_wp2
    go_ret2
    exact ⟨rfl, below_drewN HK5.out.2 _⟩
end Go.Proofs.YtgdbeiadlgkedaaGreatDoor
set_option linter.unusedVariables false
set_option linter.unusedSimpArgs false
namespace Go.Proofs.YtgdbeiadlgkedaaGreatDoor
open Go.RowKit PFnWindowOne Go.Proofs.YtgdbeiadlgkedaaGreatDoorW.PrintWords Go.Proofs.YtgdbeiadlgkedaaGreatDoorW.PrintLast Go.Proofs.YtgdbeiadlgkedaaGreatDoorW.PrintMore
theorem or128b : ∀ d : Fin 256, Go.bits .or .u8 ((d : Nat) : Int) 128 = (((d : Nat) % 128 + 128 : Nat) : Int) := by decide +kernel
theorem sn_one (m : Nat) : strOfNums [((m : Nat) : Int)] = ⟨#[m.toUInt8]⟩ := by simp [strOfNums]
theorem le1 (s : ByteArray) (x : UInt8) (h : s.size + 1 ≤ 1000) : s.size + (⟨#[x]⟩ : ByteArray).size ≤ 9223372036854775807 := Nat.le_trans h (by decide)
theorem varint_l0 : ∀ (n v : Nat) (s : ByteArray), v ≤ n → s.size + (Lib.uvarint v).length ≤ 1000 → ∃ k, spec_CodVarint.l0 k (v : Int) s = some (s ++ ⟨(Lib.uvarint v).toArray⟩) := by
  intro n
  induction n with
  | zero =>
    intro v s hv hs
    obtain rfl : v = 0 := by omega
    refine ⟨1, ?_⟩
    rw [Lib.uvarint_small (by decide)] at hs ⊢
    rw [spec_CodVarint.l0, if_neg (by omega)]
    simp only [Option.bind_some]
    rw [show (((0 : Nat) : Int) % 256) = ((0 : Nat) : Int) by decide, sn_one]
    rw [if_pos (le1 s _ (show s.size + 1 ≤ 1000 from hs))]
  | succ n ih =>
    intro v s hv hs
    by_cases h : v < 128
    · refine ⟨1, ?_⟩
      rw [Lib.uvarint_small h] at hs ⊢
      rw [spec_CodVarint.l0, if_neg (by omega)]
      simp only [Option.bind_some]
      rw [show ((v : Int) % 256) = ((v : Nat) : Int) by omega, sn_one]
      rw [if_pos (le1 s _ (show s.size + 1 ≤ 1000 from hs))]
    · rw [Lib.uvarint_big (by omega)] at hs ⊢
      obtain ⟨k, hk⟩ := ih (v / 128) (s ++ ⟨#[(v % 128 + 128).toUInt8]⟩) (by omega) (by rw [List.length_cons] at hs; rw [ByteArray.size_append]; show s.size + 1 + _ ≤ 1000; omega)
      refine ⟨k + 1, ?_⟩
      rw [spec_CodVarint.l0, if_pos (by omega)]
      simp only [Option.bind_some]
      have e : ((v : Int) % 256) = (((⟨v % 256, by omega⟩ : Fin 256) : Nat) : Int) := by simp
      rw [e, or128b, show ((⟨v % 256, by omega⟩ : Fin 256) : Nat) % 128 + 128 = v % 128 + 128 by simp only; omega, sn_one]
      rw [if_pos (le1 s _ (show s.size + 1 ≤ 1000 by rw [List.length_cons] at hs; omega)), show ((v : Int) / 128) = ((v / 128 : Nat) : Int) by omega, hk]
      congr 1
      apply ByteArray.ext
      simp
theorem varint_some (v : Nat) (hv : v < 18446744073709551616) : ∃ k, spec_CodVarint.f k (v : Int) = some ⟨(Lib.uvarint v).toArray⟩ := by
  obtain ⟨k, hk⟩ := varint_l0 v v ⟨#[]⟩ (Nat.le_refl _) (by have := Lib.uvarint_length64 hv; simp [ByteArray.size]; omega)
  refine ⟨k, ?_⟩
  rw [spec_CodVarint.f, hk]
  congr 1
theorem str_ext0 {s : ByteArray} {l : List UInt8} (h : s.data.toList = l) : s = ⟨l.toArray⟩ := by
  cases s with
  | mk d => simp only at h; subst h; simp
theorem xor_sign (n : Int) (h0 : -9223372036854775808 ≤ n) (h1 : n ≤ 9223372036854775807) : Go.bits .xor .u64 (u64of n : Int) 9223372036854775808 = ((n + 9223372036854775808).toNat : Int) := by
  have hl := u64of_lt n
  have h := bits_xor_u64_nat (u64of n) 9223372036854775808 hl (by decide)
  have e : ((9223372036854775808 : Nat) : Int) = 9223372036854775808 := rfl
  rw [e] at h
  rw [h]
  have hm : (u64of n ^^^ 9223372036854775808) % 2 ^ 63 = u64of n % 2 ^ 63 := by rw [Nat.xor_mod_two_pow]; simp
  have hd : (u64of n ^^^ 9223372036854775808) / 2 ^ 63 = (u64of n / 2 ^ 63) ^^^ 1 := by rw [Nat.xor_div_two_pow]
  have e2 : (2 : Nat) ^ 63 = 9223372036854775808 := by decide
  rw [e2] at hm hd
  have hx : u64of n = (n % 18446744073709551616).toNat := rfl
  rcases (show u64of n / 9223372036854775808 = 0 ∨ u64of n / 9223372036854775808 = 1 by omega) with hq | hq
  · rw [hq] at hd
    have : (0 : Nat) ^^^ 1 = 1 := by decide
    rw [this] at hd
    omega
  · rw [hq] at hd
    have : (1 : Nat) ^^^ 1 = 0 := by decide
    rw [this] at hd
    omega
theorem varint_any (v : Nat) (w : World) (hv : v < 18446744073709551616) : Calls Tryz.prog 47 #[.int .u64 v] w fun e w' => e = .returned (.string ⟨(Lib.uvarint v).toArray⟩) ∧ Below w.heap.size w w' := by
  obtain ⟨k, hk⟩ := varint_some v hv
  exact spec_CodVarint.calls k _ _ w hk
theorem wrapU (n : Int) : IntKind.u64.wrap n = (u64of n : Int) := by unfold u64of; simp [IntKind.wrap, IntKind.bits, IntKind.signed]; omega
theorem modU (n : Int) : n % 18446744073709551616 = (u64of n : Int) := by unfold u64of; omega
end Go.Proofs.YtgdbeiadlgkedaaGreatDoor
set_option linter.unusedVariables false
set_option linter.unusedSimpArgs false
namespace Go.Proofs.YtgdbeiadlgkedaaGreatDoor
open Go.RowKit PFnWindowOne Go.Proofs.YtgdbeiadlgkedaaGreatDoorW.PrintWords Go.Proofs.YtgdbeiadlgkedaaGreatDoorW.PrintLast Go.Proofs.YtgdbeiadlgkedaaGreatDoorW.PrintMore
theorem add_strZ (s t : ByteArray) (h1 : s.size ≤ 100000) (h2 : t.size ≤ 100000) : ∀ W : World, (Op.stringOp .add s t).run Tryz.prog W = .ok (.string (s ++ t)) W := by
  intro W
  simp [Op.stringOp]
  omega
theorem ret_strZ {s t : ByteArray} (h : s = t) : Ending.returned (.string s) = .returned (.string t) := by rw [h]
set_option maxHeartbeats 4000000 in
set_option maxRecDepth 100000 in
theorem spanCoded_1 (g : Bool) (s e : Int) (w : World) (hs : -9223372036854775808 ≤ s ∧ s ≤ 9223372036854775807) (he : -9223372036854775808 ≤ e ∧ e ≤ 9223372036854775807) :
    Calls Tryz.prog 14 #[.int .i64 1, .agg #[.bool g, .int .i64 s, .int .i64 e]] w fun x w' => x = .returned (.string ⟨(wbytes s e).toArray⟩) ∧ Below w.heap.size w w' := by
  obtain ⟨U, hU⟩ : ∃ U, U = u64of e := ⟨_, rfl⟩
  obtain ⟨D, hD⟩ : ∃ D, D = u64of (e - s) := ⟨_, rfl⟩
  obtain ⟨V, hV⟩ : ∃ V, V = (e + 9223372036854775808).toNat := ⟨_, rfl⟩
  obtain ⟨x0, hx0⟩ : ∃ x, x = wrap64 (e - s) := ⟨_, rfl⟩
  have q1 := wrapU e
  have q2 := modU e
  have hx := xor_sign e he.1 he.2
  rw [← hU] at q1 q2 hx
  rw [← hV] at hx
  have q3 : IntKind.i64.wrap (e - s) = x0 := by rw [hx0]; exact IntWalk.i64_left _
  have q4 : wrap64 (e - s) = x0 := hx0.symm
  have q5 : IntKind.u64.wrap x0 = (D : Int) := by rw [hD, hx0, IntKind.wrap_u64]; unfold wrap64 u64of; omega
  have q6 : x0 % 18446744073709551616 = (D : Int) := by rw [hD, hx0]; unfold wrap64 u64of; omega
  have HB8 := Lib.hid (fun W => codBig8_any V W)
  have HVA := Lib.hid (fun W => varint_any D W (by rw [hD]; exact u64of_lt _))
  obtain ⟨r1, hr1⟩ : ∃ r : ByteArray, r = ⟨(Lib.beBytes 8 V).toArray⟩ := ⟨_, rfl⟩
  obtain ⟨r2, hr2⟩ : ∃ r : ByteArray, r = ⟨(Lib.uvarint D).toArray⟩ := ⟨_, rfl⟩
  have z1 : r1.size = 8 := by rw [hr1]; exact Lib.beBytes_length 8 V
  have z2 : r2.size ≤ 10 := by rw [hr2]; have := Lib.uvarint_length64 (x := D) (by rw [hD]; exact u64of_lt _); exact this
  have hadd := add_strZ r1 r2 (by omega) (by omega)
  have HR := Lib.hid (show r1 ++ r2 = ⟨(wbytes s e).toArray⟩ by rw [hr1, hr2]; apply str_ext0; rw [ByteArray.data_append]; unfold wbytes; rw [← hV, ← hD]; simp)
  rw [← hr1] at HB8
  rw [← hr2] at HVA
  have KD : D1 w #[.bool g, .int .i64 s, .int .i64 e] 32 (w.alloc (.cells #[.bool g, .int .i64 s, .int .i64 e] 32)).drew := ⟨heap_alloc_new w _, below_drew (below_alloc (Below.refl _ _) _)⟩
  have K0 := D1.of3 KD
  have HK := Lib.hid KD
  clear KD hU hD hV hx0 hs he hr1 hr2 z1 z2
  go_enter Tryz.func14, Tryz.ntmps14
  go_wp2
  go_region_held3 (fun w' => w'.cell? ⟨w.heap.size, 0, none⟩ = some (.bool g) ∧ w'.cell? ⟨w.heap.size, 1, none⟩ = some (.int .i64 s) ∧ w'.cell? ⟨w.heap.size, 2, none⟩ = some (.int .i64 e) ∧ Aside0 (D1 w #[.bool g, .int .i64 s, .int .i64 e] 32 w')) (assumption) (first
    | (go_at_call 46; go_loud ((with_reducible refine (HB8.out _).mono ?_); rintro e_ w1 ⟨rfl, hb⟩; have HK1 := Lib.hid (D1.step HK.out hb); have K1 := D1.of3 HK1.out; clear hb))
    | (go_at_call 47; go_loud ((with_reducible refine (HVA.out _).mono ?_); rintro e_ w2 ⟨rfl, hb⟩; have HK2 := Lib.hid (D1.step HK1.out hb); have K2 := D1.of3 HK2.out; clear hb)))
  all_goals
    have HKb := Lib.hid HK2.out.2
    clear K0 K1 K2 HK HK1 HK2
    refine (by assumption : ∀ (a : Act) (w : World), Code.wp _ _ _ a w → _) _ _ ?_
    go_wp2
    go_ret
    exact ⟨ret_strZ HR.out, HKb.out⟩
end Go.Proofs.YtgdbeiadlgkedaaGreatDoor
set_option linter.unusedVariables false
set_option linter.unusedSimpArgs false
namespace Go.Proofs.YtgdbeiadlgkedaaGreatDoor
open Go.RowKit
theorem ret_int {k : IntKind} {a b : Int} (h : a = b) : Ending.returned (.int k a) = .returned (.int k b) := by rw [h]
def mx (a b : Int) : Int := if a < b then b else a
def mn (a b : Int) : Int := if a < b then a else b
def nrm (t : Int) : Int := if t < -9223372036854775 then -9223372036854775 else if 9223372036854775 < t then 9223372036854775 else t
theorem nrm_in {t : Int} (h0 : -9223372036854775 ≤ t) (h1 : t ≤ 9223372036854775) : nrm t = t := by unfold nrm; rw [if_neg (by omega), if_neg (by omega)]
theorem nrm_mx (t : Int) : mn (mx t (-9223372036854775)) 9223372036854775 = nrm t := by
  unfold nrm mn mx
  split <;> split <;> (try split) <;> (try split) <;> omega
theorem max_any (a b : Int) (w : World) : Calls Tryz.prog 164 #[.int .i64 a, .int .i64 b] w fun e w' => e = .returned (.int .i64 (mx a b)) ∧ w = w' := by
  by_cases h : a < b
  · go_enter Tryz.func164, Tryz.ntmps164
    go_wp2
    go_ret
    exact ⟨ret_int (by unfold mx; rw [if_pos h]), rfl⟩
  · go_enter Tryz.func164, Tryz.ntmps164
    go_wp2
    go_ret
    exact ⟨ret_int (by unfold mx; rw [if_neg (by omega)]), rfl⟩
theorem min_any (a b : Int) (w : World) : Calls Tryz.prog 163 #[.int .i64 a, .int .i64 b] w fun e w' => e = .returned (.int .i64 (mn a b)) ∧ w = w' := by
  by_cases h : a < b
  · go_enter Tryz.func163, Tryz.ntmps163
    go_wp2
    go_ret
    exact ⟨ret_int (by unfold mn; rw [if_pos h]), rfl⟩
  · go_enter Tryz.func163, Tryz.ntmps163
    go_wp2
    go_ret
    exact ⟨ret_int (by unfold mn; rw [if_neg (by omega)]), rfl⟩
theorem norm_any (t : Int) (w : World) : Calls Tryz.prog 162 #[.int .i64 t] w fun e w' => e = .returned (.int .i64 (nrm t)) ∧ w = w' := by
  go_enter Tryz.func162, Tryz.ntmps162
  go_wp2_with (first | (go_at_call 164; refine (max_any _ _ _).mono ?_; rintro e w' ⟨rfl, rfl⟩) | (go_at_call 163; refine (min_any _ _ _).mono ?_; rintro e w' ⟨rfl, rfl⟩))
  go_ret
  exact ⟨ret_int (nrm_mx t), rfl⟩
theorem fromMs_any (t : Int) (w : World) : Calls Tryz.prog 161 #[.int .i64 t] w fun e w' => e = .returned (.int .i64 (nrm t)) ∧ w = w' := by
  go_enter Tryz.func161, Tryz.ntmps161
  go_wp2_with (go_at_call 162; refine (norm_any _ _).mono ?_; rintro e w' ⟨rfl, rfl⟩)
  go_ret
  exact ⟨rfl, rfl⟩
theorem decVar_okZ (B : Nat) (pe pl : Addr) (r g : Nat) (l : List UInt8) (i : Nat) (w : World) (h : Rd r g l i w) (he : Env B pe pl w) (hBr : B ≤ r) (v k : Nat) (hR : vrd 0 0 (l.drop i) = some (v, k)) :
    Calls Tryz.prog 92 #[rdI r] w fun e w' => e = .returned (.tuple #[.int .u64 (v : Nat), .nilIface]) ∧ w.grownBy w' (some r) ∧ Rd r g l (i + k) w' :=
  (decVar_any B pe pl r g l i w h he hBr _ hR).mono fun e w' ⟨hg, hh⟩ => by
    rcases hh with ⟨v', k', e1, e2, e3⟩ | ⟨e1, _⟩
    · cases e1; exact ⟨e2, hg, e3⟩
    · cases e1
set_option maxHeartbeats 4000000 in
set_option maxRecDepth 100000 in
theorem decSingle_ok (B : Nat) (pe pl : Addr) (a : Option Addr) (r g : Nat) (l : List UInt8) (i : Nat) (w : World) (h : Rd r g l i w) (he : Env B pe pl w) (hBr : B ≤ r) (hB : B ≤ w.heap.size) (hi : i + 8 ≤ l.length) (T : Int) (hT : wrap64 (wrap64 (Lib.beNat ((l.drop i).take 8) : Nat) + -9223372036854775808) = T) (v k : Nat) (hv : vrd 0 0 (l.drop (i + 8)) = some (v, k)) :
    Calls Tryz.prog 160 #[.pointer a, rdI r] w fun x w' => x = .returned (.tuple #[winI (nrm (wrap64 (T - wrap64 (v : Nat)))) T, .nilIface]) ∧ w.grownBy w' (some r) ∧ Rd r g l (i + 8 + k) w' := by
  have hC := decTime_ok r g l i w h hi
  rw [hT] at hC
  have HC := Lib.hid hC
  have HV := Lib.hid hv
  have HE := Lib.hid (And.intro he (And.intro hBr hB))
  obtain ⟨D, hD⟩ : ∃ D, Hid (wrap64 (v : Int) = D) := ⟨_, Lib.hid rfl⟩
  obtain ⟨S, hS⟩ : ∃ S, Hid (wrap64 (T - D) = S) := ⟨_, Lib.hid rfl⟩
  have q1 : wrap64 (v : Int) = D := hD.out
  have q2 : IntKind.i64.wrap (v : Int) = D := (IntWalk.i64_left _).trans hD.out
  have q3 : wrap64 (T - D) = S := hS.out
  have q4 : IntKind.i64.wrap (T - D) = S := (IntWalk.i64_left _).trans hS.out
  rw [q1, q3]
  clear h he hBr hB hi hT hC hv
  go_enter Tryz.func160, Tryz.ntmps160
  go_wp2_with (first
    | (go_at_call 83; go_loud (refine HC.out.mono ?_; rintro e_ w1 ⟨rfl, hg, hr⟩; have H1 := Lib.hid (And.intro hg hr); clear hg hr))
    | (go_at_call 92; go_loud (refine (decVar_okZ B pe pl r g l (i + 8) w1 H1.out.2 (HE.out.1.below (grown_below H1.out.1 HE.out.2.2 HE.out.2.1)) HE.out.2.1 v k HV.out).mono ?_; rintro e_ w2 ⟨rfl, hg, hr⟩; have H2 := Lib.hid (And.intro (grown_trans H1.out.1 hg) hr); clear hg hr))
    | (go_at_call 103; refine (millis_any _ _).mono ?_; rintro e_ w3 ⟨rfl, rfl⟩)
    | (go_at_call 161; refine (fromMs_any _ _).mono ?_; rintro e_ w3 ⟨rfl, rfl⟩))
  go_ret2
  exact ⟨rfl, H2.out.1, H2.out.2⟩
end Go.Proofs.YtgdbeiadlgkedaaGreatDoor
set_option linter.unusedVariables false
set_option linter.unusedSimpArgs false
namespace Go.Proofs.YtgdbeiadlgkedaaGreatDoor
open Go.RowKit
set_option maxHeartbeats 4000000 in
set_option maxRecDepth 100000 in
theorem backWin_1 (s e : Int) (w : World) : Calls Tryz.prog 45 #[winI s e] w fun x w' => x = .returned (.agg #[.bool false, .int .i64 s, .int .i64 e]) ∧ Below w.heap.size w w' := by
  have ta := taT s e
  go_enter Tryz.func45, Tryz.ntmps45
  go_wp2
  have hz := blk_alloc' (o' := .cells #[.int .i64 s, .int .i64 e] 194 (0, 0)) (heap_alloc_new w (.cells #[.bool false, .int .i64 s, .int .i64 e] 23))
  have HB := Lib.hid (show Below w.heap.size w ((w.alloc (.cells #[.bool false, .int .i64 s, .int .i64 e] 23)).alloc (.cells #[.int .i64 s, .int .i64 e] 194)) from ((Below.refl _ w).alloc (Nat.le_refl _) _).alloc (by rw [World.size_alloc]; omega) _)
  generalize (w.alloc (.cells #[.bool false, .int .i64 s, .int .i64 e] 23)).alloc (.cells #[.int .i64 s, .int .i64 e] 194) = X at hz HB ⊢
  have c0 : X.cell? ⟨w.heap.size, 0, none⟩ = some (.bool false) := (blk_cell hz 0).trans rfl
  have c1 : X.cell? ⟨w.heap.size, 1, none⟩ = some (.int .i64 s) := (blk_cell hz 1).trans rfl
  have c2 : X.cell? ⟨w.heap.size, 2, none⟩ = some (.int .i64 e) := (blk_cell hz 2).trans rfl
  exact bodyPost_ret (v := .agg #[.bool false, .int .i64 s, .int .i64 e]) (by simp [results, Tryz.results45, go_sem, c0, c1, c2]; try rfl) rfl ⟨rfl, HB.out⟩
set_option maxHeartbeats 4000000 in
set_option maxRecDepth 100000 in
theorem backWin_0 (w : World) : Calls Tryz.prog 45 #[.iface 192 (.agg #[])] w fun x w' => x = .returned (.agg #[.bool true, .int .i64 0, .int .i64 0]) ∧ Below w.heap.size w w' := by
  have ta := taG
  go_enter Tryz.func45, Tryz.ntmps45
  go_wp2
  have hz := blk_alloc' (o' := .cells #[.int .i64 0, .int .i64 0] 194 (0, 0)) (heap_alloc_new w (.cells #[.bool true, .int .i64 0, .int .i64 0] 23))
  have HB := Lib.hid (show Below w.heap.size w ((w.alloc (.cells #[.bool true, .int .i64 0, .int .i64 0] 23)).alloc (.cells #[.int .i64 0, .int .i64 0] 194)) from ((Below.refl _ w).alloc (Nat.le_refl _) _).alloc (by rw [World.size_alloc]; omega) _)
  generalize (w.alloc (.cells #[.bool true, .int .i64 0, .int .i64 0] 23)).alloc (.cells #[.int .i64 0, .int .i64 0] 194) = X at hz HB ⊢
  have c0 : X.cell? ⟨w.heap.size, 0, none⟩ = some (.bool true) := (blk_cell hz 0).trans rfl
  have c1 : X.cell? ⟨w.heap.size, 1, none⟩ = some (.int .i64 0) := (blk_cell hz 1).trans rfl
  have c2 : X.cell? ⟨w.heap.size, 2, none⟩ = some (.int .i64 0) := (blk_cell hz 2).trans rfl
  exact bodyPost_ret (v := .agg #[.bool true, .int .i64 0, .int .i64 0]) (by simp [results, Tryz.results45, go_sem, c0, c1, c2]; try rfl) rfl ⟨rfl, HB.out⟩
set_option maxHeartbeats 4000000 in
set_option maxRecDepth 100000 in
theorem decSingle_0 (a : Option Addr) (v : Value) (w : World) : Calls Tryz.prog 157 #[.pointer a, v] w fun x w' => x = .returned (.tuple #[.iface 192 (.agg #[]), .nilIface]) ∧ w' = w.alloc (.cells #[.iface 192 (.agg #[])] 88) := by
  go_enter Tryz.func157, Tryz.ntmps157
  go_wp2
  go_ret2
  exact ⟨rfl, rfl⟩
end Go.Proofs.YtgdbeiadlgkedaaGreatDoor
set_option linter.unusedVariables false
set_option linter.unusedSimpArgs false
namespace Go.Proofs.YtgdbeiadlgkedaaGreatDoor
open Go.RowKit
theorem D1.grown {w x y : World} {cs : Array Value} {T : TypeId} {r : Nat} (h : D1 w cs T x) (hg : x.grownBy y (some r)) (hr : w.heap.size < r) : D1 w cs T y :=
  ⟨(hg.block _ (blk_lt h.1) (by intro e; cases e; omega)).trans h.1, h.2.trans (grown_below hg h.2.size (by omega))⟩
theorem D1.drewN {w x : World} {cs : Array Value} {T : TypeId} (h : D1 w cs T x) (n : Nat) : D1 w cs T (x.drewN n) := ⟨h.1, below_drewN h.2 n⟩
theorem D1.set3 {w x : World} {a0 a1 a2 : Value} {T : TypeId} (h : D1 w #[a0, a1, a2] T x) (v0 v1 v2 : Value) :
    D1 w #[v0, v1, v2] T (((x.setCell ⟨w.heap.size, 0, none⟩ v0).setCell ⟨w.heap.size, 1, none⟩ v1).setCell ⟨w.heap.size, 2, none⟩ v2) := by
  have h0 : (x.setCell ⟨w.heap.size, 0, none⟩ v0).heap[w.heap.size]? = some (.cells #[v0, a1, a2] T (0, 0)) := (Lib.heap_setCell_same (i := 0) h.1 v0).trans rfl
  have h1 : ((x.setCell ⟨w.heap.size, 0, none⟩ v0).setCell ⟨w.heap.size, 1, none⟩ v1).heap[w.heap.size]? = some (.cells #[v0, v1, a2] T (0, 0)) := (Lib.heap_setCell_same (i := 1) h0 v1).trans rfl
  exact ⟨(Lib.heap_setCell_same (i := 2) h1 v2).trans rfl, ((h.2.setCell (p := ⟨w.heap.size, 0, none⟩) (Nat.le_refl _) v0).setCell (p := ⟨w.heap.size, 1, none⟩) (Nat.le_refl _) v1).setCell (p := ⟨w.heap.size, 2, none⟩) (Nat.le_refl _) v2⟩
theorem D1.cells3 {w x : World} {v0 v1 v2 : Value} {T : TypeId} (h : D1 w #[v0, v1, v2] T x) : x.cell? ⟨w.heap.size, 0, none⟩ = some v0 ∧ x.cell? ⟨w.heap.size, 1, none⟩ = some v1 ∧ x.cell? ⟨w.heap.size, 2, none⟩ = some v2 ∧ x.frozen? ⟨w.heap.size, 0, none⟩ = false ∧ x.frozen? ⟨w.heap.size, 1, none⟩ = false ∧ x.frozen? ⟨w.heap.size, 2, none⟩ = false :=
  ⟨(blk_cell h.1 0).trans rfl, (blk_cell h.1 1).trans rfl, (blk_cell h.1 2).trans rfl, blk_frozen h.1 0, blk_frozen h.1 1, blk_frozen h.1 2⟩
theorem mthD_1 (a : Nat) : ∀ W : World, (nilAhead 95 199 (.pointer (some ⟨a, 0, none⟩)) "DecodeSingle").run Tryz.prog W = .ok (some false) W := fun _ => by kernel_rfl
theorem mthD_0 (a : Nat) : ∀ W : World, (nilAhead 95 197 (.pointer (some ⟨a, 0, none⟩)) "DecodeSingle").run Tryz.prog W = .ok (some false) W := fun _ => by kernel_rfl
set_option maxHeartbeats 8000000 in
set_option maxRecDepth 100000 in
theorem decOne_1 (B : Nat) (pe pl : Addr) (t : ByteArray) (w : World) (ht : t.size ≤ 4294967296) (he : Env B pe pl w) (hB : B ≤ w.heap.size) (hi : 0 + 8 ≤ t.data.toList.length) (T : Int) (hT : wrap64 (wrap64 (Lib.beNat ((t.data.toList.drop 0).take 8) : Nat) + -9223372036854775808) = T) (v k n : Nat) (hv : vrd 0 0 (t.data.toList.drop (0 + 8)) = some (v, k)) (hn : 0 + 8 + k = n) :
    Calls Tryz.prog 13 #[.int .i64 1, .string t] w fun x w' => x = .returned (.tuple #[.agg #[.bool false, .int .i64 (nrm (wrap64 (T - wrap64 (v : Nat)))), .int .i64 T], .int .i64 (n : Nat), .string ⟨#[]⟩]) ∧ Below w.heap.size w w' := by
  have kc := conv_bytes
  have HT := Lib.hid (And.intro ht (And.intro he hB))
  obtain ⟨S, hS⟩ : ∃ S, Hid (nrm (wrap64 (T - wrap64 (v : Nat))) = S) := ⟨_, Lib.hid rfl⟩
  have HY := Lib.hid (fun (r : Nat) (W : World) (h : Rd r (w.heap.size + 1) t.data.toList 0 W) (he : Env B pe pl W) (hBr : B ≤ r) (hB : B ≤ W.heap.size) (a : Option Addr) => decSingle_ok B pe pl a r (w.heap.size + 1) t.data.toList 0 W h he hBr hB hi T hT v k hv)
  have HN := Lib.hid hn
  rw [hn, hS.out] at HY
  rw [hS.out]
  have qm := mthD_1
  clear ht he hB hi hT hv hn
  go_enter Tryz.func13, Tryz.ntmps13
  go_wp2_with (first
    | (go_at_call 42; go_loud (refine (newRd_any (w.alloc (.cells #[.bool false, .int .i64 0, .int .i64 0] 23)) (w.heap.size + 1) (World.size_alloc ..) t HT.out.1).mono ?_; rintro e_ w1 ⟨r, rfl, hr1, hr2, hr3⟩; obtain ⟨hs1, hs2, hs3, hs4⟩ := dv_start (b := 0) HT.out.2.2 HT.out.2.1 hr2 hr3; have HD1 := Lib.hid (show D1 w #[.bool false, .int .i64 0, .int .i64 0] 23 w1 from ⟨hs1, hs3⟩); have HS := Lib.hid (And.intro hr1 (And.intro hs2 hs4)); have HR3 := Lib.hid hr3; clear hr1 hr2 hr3 hs1 hs2 hs3 hs4))
    | (go_at_call 39; go_loud (refine (wcoder_1 _).mono ?_; rintro e_ w2 ⟨rfl, hw⟩; have hb : Below w1.heap.size w1 w2 := (by rw [hw]; exact (Below.refl _ _).alloc (Nat.le_refl _) _); have HC2 := Lib.hid (show w2.heap[w1.heap.size]? = some (.cells #[.string iwc, .string ⟨#[]⟩] 182 (0, 0)) by rw [hw]; exact heap_alloc_new w1 _); have HB2 := Lib.hid hb; clear hw hb))
    | (go_at_call 43; go_loud (refine (wdec_1 w1.heap.size w2 HC2.out).mono ?_; rintro e_ w3 ⟨rfl, hw⟩; have hb : Below w1.heap.size w1 w3 := (by rw [hw]; exact HB2.out.alloc HB2.out.size _); have HB3 := Lib.hid hb; clear hw hb))
    | (go_at_call 160; go_loud (refine (HY.out r w3 (HS.out.1.below HB3.out) (HS.out.2.1.below (HB3.out.mono (by have := HT.out.2.2; have := HD1.out.2.size; omega))) HS.out.2.2 (by have := HT.out.2.2; have := HD1.out.2.size; have := HB3.out.size; omega) _).mono ?_; rintro e_ w4 ⟨rfl, hg, hrd⟩; have HD4 := Lib.hid ((HD1.out.step HB3.out).grown hg (by have := HR3.out; omega)); have HR4 := Lib.hid hrd; clear hg hrd))
    | (go_at_call 45; go_loud (refine (backWin_1 S T w4).mono ?_; rintro e_ w5 ⟨rfl, hb⟩; have HD5 := Lib.hid (HD4.out.step hb); have HR5 := Lib.hid (HR4.out.below hb); clear hb; obtain ⟨k0, k1, k2, g0, g1, g2⟩ := HD5.out.cells3; have qs : (t.size : Int) - ((t.data.toList.length - n : Nat) : Int) = (n : Nat) := (by have h1 := HR5.out.le; have h2 : t.data.toList.length = t.size := (by rw [Array.length_toList]; rfl); omega); have qs2 : IntKind.i64.wrap ((n : Nat) : Int) = (n : Nat) := IntWalk.i64_in _ (by have := HR5.out.le; have := HR5.out.len; omega); obtain ⟨L, hL⟩ : ∃ L, Hid (t.data.toList.length - n = L) := ⟨_, Lib.hid rfl⟩; rw [hL.out] at qs))
    | (go_at_call 44; go_loud (refine (len_any r (w.heap.size + 1) t.data.toList n _ HR5.out).mono ?_; rw [hL.out]; rintro e_ w6 ⟨rfl, q, rfl⟩)))
  have HX := Lib.hid ((HD5.out.drewN q).set3 (.bool false) (.int .i64 S) (.int .i64 T))
  clear k0 k1 k2 g0 g1 g2
  generalize (((w5.drewN q).setCell ⟨w.heap.size, 0, none⟩ (.bool false)).setCell ⟨w.heap.size, 1, none⟩ (.int .i64 S)).setCell ⟨w.heap.size, 2, none⟩ (.int .i64 T) = X at HX ⊢
  obtain ⟨c0, c1, c2, _, _, _⟩ := HX.out.cells3
  exact bodyPost_ret (v := .tuple #[.agg #[.bool false, .int .i64 S, .int .i64 T], .int .i64 (n : Nat), .string ⟨#[]⟩]) (by simp [results, Tryz.results13, go_sem, c0, c1, c2]; try rfl) rfl ⟨rfl, HX.out.2⟩
set_option maxHeartbeats 8000000 in
set_option maxRecDepth 100000 in
theorem decOne_0 (B : Nat) (pe pl : Addr) (t : ByteArray) (w : World) (ht : t.size ≤ 4294967296) (he : Env B pe pl w) (hB : B ≤ w.heap.size) :
    Calls Tryz.prog 13 #[.int .i64 0, .string t] w fun x w' => x = .returned (.tuple #[.agg #[.bool true, .int .i64 0, .int .i64 0], .int .i64 0, .string ⟨#[]⟩]) ∧ Below w.heap.size w w' := by
  have kc := conv_bytes
  have HT := Lib.hid (And.intro ht (And.intro he hB))
  have qm := mthD_0
  clear ht he hB
  go_enter Tryz.func13, Tryz.ntmps13
  go_wp2_with (first
    | (go_at_call 42; go_loud (refine (newRd_any (w.alloc (.cells #[.bool false, .int .i64 0, .int .i64 0] 23)) (w.heap.size + 1) (World.size_alloc ..) t HT.out.1).mono ?_; rintro e_ w1 ⟨r, rfl, hr1, hr2, hr3⟩; obtain ⟨hs1, hs2, hs3, hs4⟩ := dv_start (b := 0) HT.out.2.2 HT.out.2.1 hr2 hr3; have HD1 := Lib.hid (show D1 w #[.bool false, .int .i64 0, .int .i64 0] 23 w1 from ⟨hs1, hs3⟩); have HS := Lib.hid (And.intro hr1 (And.intro hs2 hs4)); have HR3 := Lib.hid hr3; clear hr1 hr2 hr3 hs1 hs2 hs3 hs4))
    | (go_at_call 39; go_loud (refine (wcoder_0 _).mono ?_; rintro e_ w2 ⟨rfl, hw⟩; have hb : Below w1.heap.size w1 w2 := (by rw [hw]; exact (Below.refl _ _).alloc (Nat.le_refl _) _); have HC2 := Lib.hid (show w2.heap[w1.heap.size]? = some (.cells #[.string gwc, .string ⟨#[]⟩] 182 (0, 0)) by rw [hw]; exact heap_alloc_new w1 _); have HB2 := Lib.hid hb; clear hw hb))
    | (go_at_call 43; go_loud (refine (wdec_0 w1.heap.size w2 HC2.out).mono ?_; rintro e_ w3 ⟨rfl, hw⟩; have hb : Below w1.heap.size w1 w3 := (by rw [hw]; exact HB2.out.alloc HB2.out.size _); have HB3 := Lib.hid hb; clear hw hb))
    | (go_at_call 157; go_loud (refine (decSingle_0 _ _ w3).mono ?_; rintro e_ w4 ⟨rfl, hw⟩; have hb : Below w1.heap.size w1 w4 := (by rw [hw]; exact HB3.out.alloc HB3.out.size _); have HD4 := Lib.hid (HD1.out.step hb); have HR4 := Lib.hid (HS.out.1.below hb); clear hw hb))
    | (go_at_call 45; go_loud (refine (backWin_0 w4).mono ?_; rintro e_ w5 ⟨rfl, hb⟩; have HD5 := Lib.hid (HD4.out.step hb); have HR5 := Lib.hid (HR4.out.below hb); clear hb; obtain ⟨k0, k1, k2, g0, g1, g2⟩ := HD5.out.cells3; have qs : (t.size : Int) - ((t.data.toList.length - 0 : Nat) : Int) = 0 := (by have h2 : t.data.toList.length = t.size := (by rw [Array.length_toList]; rfl); omega); obtain ⟨L, hL⟩ : ∃ L, Hid (t.data.toList.length - 0 = L) := ⟨_, Lib.hid rfl⟩; rw [hL.out] at qs))
    | (go_at_call 44; go_loud (refine (len_any r (w.heap.size + 1) t.data.toList 0 _ HR5.out).mono ?_; rw [hL.out]; rintro e_ w6 ⟨rfl, q, rfl⟩)))
  have HX := Lib.hid ((HD5.out.drewN q).set3 (.bool true) (.int .i64 0) (.int .i64 0))
  clear k0 k1 k2 g0 g1 g2
  generalize (((w5.drewN q).setCell ⟨w.heap.size, 0, none⟩ (.bool true)).setCell ⟨w.heap.size, 1, none⟩ (.int .i64 0)).setCell ⟨w.heap.size, 2, none⟩ (.int .i64 0) = X at HX ⊢
  obtain ⟨c0, c1, c2, _, _, _⟩ := HX.out.cells3
  exact bodyPost_ret (v := .tuple #[.agg #[.bool true, .int .i64 0, .int .i64 0], .int .i64 0, .string ⟨#[]⟩]) (by simp [results, Tryz.results13, go_sem, c0, c1, c2]; try rfl) rfl ⟨rfl, HX.out.2⟩
end Go.Proofs.YtgdbeiadlgkedaaGreatDoor
