/- Contracts: the reference reads a row's header. -/
import Derived.Test.YtgdbeiadlgkedaaDoorL12
namespace Go.Proofs.YtgdbeiadlgkedaaDoor
open Go.RowKit
set_option linter.unusedVariables false
set_option linter.unusedSimpArgs false

theorem laid4 {X : World} {b : Nat} {v0 v1 v2 v3 : Value} {T : TypeId} (h : X.heap[b]? = some (.cells #[v0, v1, v2, v3] T (0, 0))) :
    X.cell? ⟨b, 0, none⟩ = some v0 ∧ X.cell? ⟨b, 1, none⟩ = some v1 ∧ X.cell? ⟨b, 2, none⟩ = some v2 ∧ X.cell? ⟨b, 3, none⟩ = some v3 :=
  ⟨(blk_cell h 0).trans rfl, (blk_cell h 1).trans rfl, (blk_cell h 2).trans rfl, (blk_cell h 3).trans rfl⟩
theorem wsub {a b : Nat} (h : b ≤ a) (ha : a ≤ 2000000) : wrap64 ((a : Int) - (b : Int)) = ((a - b : Nat) : Int) ∧ IntKind.i64.wrap ((a : Int) - (b : Int)) = ((a - b : Nat) : Int) := by
  have e : wrap64 ((a : Int) - (b : Int)) = ((a - b : Nat) : Int) := by unfold wrap64; omega
  exact ⟨e, by rw [IntWalk.i64_in _ (by omega)]; omega⟩
theorem wadd {a b : Nat} (ha : a ≤ 2000000) (hb : b ≤ 2000000) : wrap64 ((a : Int) + (b : Int)) = ((a + b : Nat) : Int) ∧ IntKind.i64.wrap ((a : Int) + (b : Int)) = ((a + b : Nat) : Int) := by
  have e : wrap64 ((a : Int) + (b : Int)) = ((a + b : Nat) : Int) := by unfold wrap64; omega
  exact ⟨e, by rw [IntWalk.i64_in _ (by omega)]; omega⟩
theorem wid {a : Nat} (ha : a ≤ 2000000) : wrap64 (a : Int) = (a : Int) := by unfold wrap64; omega
theorem zlt {S k k2 v2 z : Nat} (hz : S - k - k2 = z) (he : S < k + k2 + v2) (hk2 : k2 ≤ S - k) (h : k ≤ S) : (z : Int) < (v2 : Int) := by omega
theorem znlt {S k k2 v2 z : Nat} (hz : S - k - k2 = z) (he : ¬ S < k + k2 + v2) : ¬ (z : Int) < (v2 : Int) := by omega
theorem elim_le {a b : Nat} (h : ¬ b < a) : a ≤ b := Nat.le_of_not_lt h
theorem bab {a b c : Nat} (h : a + b = c) : (a : Int) ≤ (c : Int) ∧ a ≤ c := by omega
theorem bsz {k k2 v2 a b S : Nat} (ha : k + k2 = a) (hb : a + v2 = b) (he : ¬ S < k + k2 + v2) : (b : Int) ≤ (S : Int) ∧ b ≤ S := by omega
theorem drop_str (s : ByteArray) (k : Nat) : (s.extract k s.size).data.toList = s.data.toList.drop k := by
  rw [Lib.extract_data, List.take_of_length_le (by rw [List.length_drop, Array.length_toList]; exact Nat.le_refl _)]
theorem drop_size (s : ByteArray) (k : Nat) (h : s.size ≤ 400) : (s.extract k s.size).size ≤ 4294967296 := by
  rw [ByteArray.size_extract]; omega
set_option maxHeartbeats 4000000 in
set_option maxRecDepth 100000 in
theorem rho_A (s : ByteArray) (w : World) (hs : s.size ≤ 400) (h1 : vrd 0 0 s.data.toList = none) :
    Calls Tryd.prog 39 #[.string s] w fun e w' => e = .returned (.agg #[.int .i64 0, .string ⟨#[]⟩, .int .i64 0, .int .i64 1]) ∧ Below w.heap.size w w' := by
  have HC1 := Lib.hid (fun W => codVarRead_any s W (by omega) none h1)
  simp only [cvr] at HC1
  clear hs h1
  go_enter Tryd.func39, Tryd.ntmps39
  go_wp2_with (go_at_call 37; go_loud (refine (HC1.out _).mono ?_; rintro e_ w0 ⟨rfl, rfl⟩))
  obtain ⟨X, hX⟩ : ∃ X, X = w.alloc (.cells #[.int .i64 0, .string ⟨#[]⟩, .int .i64 0, .int .i64 1] 67) := ⟨_, rfl⟩
  have hb : X.heap[w.heap.size]? = some (.cells #[.int .i64 0, .string ⟨#[]⟩, .int .i64 0, .int .i64 1] 67 (0, 0)) := by rw [hX]; exact heap_alloc_new w _
  have HX := Lib.hid (show Below w.heap.size w X by rw [hX]; exact (Below.refl _ w).alloc (Nat.le_refl _) _)
  rw [← hX]
  clear hX
  obtain ⟨c0, c1, c2, c3⟩ := laid4 hb
  clear hb
  exact bodyPost_ret (v := .agg #[.int .i64 0, .string ⟨#[]⟩, .int .i64 0, .int .i64 1]) (by simp [results, Tryd.results39, go_sem, c0, c1, c2, c3]; try rfl) rfl ⟨rfl, HX.out⟩
set_option maxHeartbeats 4000000 in
set_option maxRecDepth 100000 in
theorem rho_B (s : ByteArray) (w : World) (hs : s.size ≤ 400) (v k : Nat) (h1 : vrd 0 0 s.data.toList = some (v, k)) (h2 : vrd 0 0 (s.data.toList.drop k) = none) :
    Calls Tryd.prog 39 #[.string s] w fun e w' => e = .returned (.agg #[.int .i64 0, .string ⟨#[]⟩, .int .i64 0, .int .i64 1]) ∧ Below w.heap.size w w' := by
  have HC1 := Lib.hid (fun W => codVarRead_any s W (by omega) (some (v, k)) h1)
  simp only [cvr] at HC1
  have HSZ := Lib.hid (show s.data.toList.length = s.size by rw [Array.length_toList]; rfl)
  obtain ⟨f1, f2, f3, f4⟩ := vrd_facts _ 0 0 v k (by decide) h1
  have hk1 : (k : Int) ≤ (s.size : Int) := by have := HSZ.out; omega
  have hk2 : k ≤ s.size := by omega
  have hdl := drop_str s k
  have hds := drop_size s k hs
  obtain ⟨t2, ht2⟩ : ∃ t2, s.extract k s.size = t2 := ⟨_, rfl⟩
  rw [ht2] at hdl hds
  have HC2 := Lib.hid (fun W => codVarRead_any t2 W hds none (by rw [hdl]; exact h2))
  simp only [cvr] at HC2
  clear hs h1 h2 f1 f2 f3 f4 hdl hds
  go_enter Tryd.func39, Tryd.ntmps39
  go_wp2_with (go_at_call 37; (first | ((with_reducible refine (HC1.out _).mono ?_); rintro e_ w0 ⟨rfl, rfl⟩) | ((with_reducible refine (HC2.out _).mono ?_); rintro e_ w0 ⟨rfl, rfl⟩)))
  obtain ⟨X, hX⟩ : ∃ X, X = w.alloc (.cells #[.int .i64 0, .string ⟨#[]⟩, .int .i64 0, .int .i64 1] 67) := ⟨_, rfl⟩
  have hb : X.heap[w.heap.size]? = some (.cells #[.int .i64 0, .string ⟨#[]⟩, .int .i64 0, .int .i64 1] 67 (0, 0)) := by rw [hX]; exact heap_alloc_new w _
  have HX := Lib.hid (show Below w.heap.size w X by rw [hX]; exact (Below.refl _ w).alloc (Nat.le_refl _) _)
  rw [← hX]
  clear hX
  obtain ⟨c0, c1, c2, c3⟩ := laid4 hb
  clear hb
  exact bodyPost_ret (v := .agg #[.int .i64 0, .string ⟨#[]⟩, .int .i64 0, .int .i64 1]) (by simp [results, Tryd.results39, go_sem, c0, c1, c2, c3]; try rfl) rfl ⟨rfl, HX.out⟩
set_option maxHeartbeats 4000000 in
set_option maxRecDepth 100000 in
theorem rho_C1 (s : ByteArray) (w : World) (hs : s.size ≤ 400) (v k v2 k2 : Nat) (h1 : vrd 0 0 s.data.toList = some (v, k)) (h2 : vrd 0 0 (s.data.toList.drop k) = some (v2, k2)) (hv : 1000000 < v) :
    Calls Tryd.prog 39 #[.string s] w fun e w' => e = .returned (.agg #[.int .i64 0, .string ⟨#[]⟩, .int .i64 0, .int .i64 2]) ∧ Below w.heap.size w w' := by
  have HC1 := Lib.hid (fun W => codVarRead_any s W (by omega) (some (v, k)) h1)
  simp only [cvr] at HC1
  have HSZ := Lib.hid (show s.data.toList.length = s.size by rw [Array.length_toList]; rfl)
  obtain ⟨f1, f2, f3, f4⟩ := vrd_facts _ 0 0 v k (by decide) h1
  have hk1 : (k : Int) ≤ (s.size : Int) := by have := HSZ.out; omega
  have hk2 : k ≤ s.size := by omega
  have hdl := drop_str s k
  have hds := drop_size s k hs
  obtain ⟨t2, ht2⟩ : ∃ t2, s.extract k s.size = t2 := ⟨_, rfl⟩
  rw [ht2] at hdl hds
  have HC2 := Lib.hid (fun W => codVarRead_any t2 W hds (some (v2, k2)) (by rw [hdl]; exact h2))
  simp only [cvr] at HC2
  obtain ⟨g1, g2, g3, g4⟩ := vrd_facts _ 0 0 v2 k2 (by decide) h2
  rw [List.length_drop, HSZ.out] at g3
  have q1 : 1000000 < (v : Int) := by omega
  clear hs h1 h2 f1 f2 f3 f4 hdl hds g1 g2 g3 g4 hv
  go_enter Tryd.func39, Tryd.ntmps39
  go_wp2_with (go_at_call 37; (first | ((with_reducible refine (HC1.out _).mono ?_); rintro e_ w0 ⟨rfl, rfl⟩) | ((with_reducible refine (HC2.out _).mono ?_); rintro e_ w0 ⟨rfl, rfl⟩)))
  obtain ⟨X, hX⟩ : ∃ X, X = w.alloc (.cells #[.int .i64 0, .string ⟨#[]⟩, .int .i64 0, .int .i64 2] 67) := ⟨_, rfl⟩
  have hb : X.heap[w.heap.size]? = some (.cells #[.int .i64 0, .string ⟨#[]⟩, .int .i64 0, .int .i64 2] 67 (0, 0)) := by rw [hX]; exact heap_alloc_new w _
  have HX := Lib.hid (show Below w.heap.size w X by rw [hX]; exact (Below.refl _ w).alloc (Nat.le_refl _) _)
  rw [← hX]
  clear hX
  obtain ⟨c0, c1, c2, c3⟩ := laid4 hb
  clear hb
  exact bodyPost_ret (v := .agg #[.int .i64 0, .string ⟨#[]⟩, .int .i64 0, .int .i64 2]) (by simp [results, Tryd.results39, go_sem, c0, c1, c2, c3]; try rfl) rfl ⟨rfl, HX.out⟩
set_option maxHeartbeats 4000000 in
set_option maxRecDepth 100000 in
theorem rho_C2 (s : ByteArray) (w : World) (hs : s.size ≤ 400) (v k v2 k2 : Nat) (h1 : vrd 0 0 s.data.toList = some (v, k)) (h2 : vrd 0 0 (s.data.toList.drop k) = some (v2, k2)) (hv : ¬ 1000000 < v) (hv2 : 1000000 < v2) :
    Calls Tryd.prog 39 #[.string s] w fun e w' => e = .returned (.agg #[.int .i64 0, .string ⟨#[]⟩, .int .i64 0, .int .i64 2]) ∧ Below w.heap.size w w' := by
  have HC1 := Lib.hid (fun W => codVarRead_any s W (by omega) (some (v, k)) h1)
  simp only [cvr] at HC1
  have HSZ := Lib.hid (show s.data.toList.length = s.size by rw [Array.length_toList]; rfl)
  obtain ⟨f1, f2, f3, f4⟩ := vrd_facts _ 0 0 v k (by decide) h1
  have hk1 : (k : Int) ≤ (s.size : Int) := by have := HSZ.out; omega
  have hk2 : k ≤ s.size := by omega
  have hdl := drop_str s k
  have hds := drop_size s k hs
  obtain ⟨t2, ht2⟩ : ∃ t2, s.extract k s.size = t2 := ⟨_, rfl⟩
  rw [ht2] at hdl hds
  have HC2 := Lib.hid (fun W => codVarRead_any t2 W hds (some (v2, k2)) (by rw [hdl]; exact h2))
  simp only [cvr] at HC2
  obtain ⟨g1, g2, g3, g4⟩ := vrd_facts _ 0 0 v2 k2 (by decide) h2
  rw [List.length_drop, HSZ.out] at g3
  have q1 : ¬ 1000000 < (v : Int) := by omega
  have q2 : 1000000 < (v2 : Int) := by omega
  clear hs h1 h2 f1 f2 f3 f4 hdl hds g1 g2 g3 g4 hv hv2
  go_enter Tryd.func39, Tryd.ntmps39
  go_wp2_with (go_at_call 37; (first | ((with_reducible refine (HC1.out _).mono ?_); rintro e_ w0 ⟨rfl, rfl⟩) | ((with_reducible refine (HC2.out _).mono ?_); rintro e_ w0 ⟨rfl, rfl⟩)))
  obtain ⟨X, hX⟩ : ∃ X, X = w.alloc (.cells #[.int .i64 0, .string ⟨#[]⟩, .int .i64 0, .int .i64 2] 67) := ⟨_, rfl⟩
  have hb : X.heap[w.heap.size]? = some (.cells #[.int .i64 0, .string ⟨#[]⟩, .int .i64 0, .int .i64 2] 67 (0, 0)) := by rw [hX]; exact heap_alloc_new w _
  have HX := Lib.hid (show Below w.heap.size w X by rw [hX]; exact (Below.refl _ w).alloc (Nat.le_refl _) _)
  rw [← hX]
  clear hX
  obtain ⟨c0, c1, c2, c3⟩ := laid4 hb
  clear hb
  exact bodyPost_ret (v := .agg #[.int .i64 0, .string ⟨#[]⟩, .int .i64 0, .int .i64 2]) (by simp [results, Tryd.results39, go_sem, c0, c1, c2, c3]; try rfl) rfl ⟨rfl, HX.out⟩
set_option maxHeartbeats 4000000 in
set_option maxRecDepth 100000 in
theorem rho_D1 (s : ByteArray) (w : World) (hs : s.size ≤ 400) (v k v2 k2 : Nat) (h1 : vrd 0 0 s.data.toList = some (v, k)) (h2 : vrd 0 0 (s.data.toList.drop k) = some (v2, k2)) (hv : ¬ 1000000 < v) (hv2 : ¬ 1000000 < v2) (hd : v < v2) :
    Calls Tryd.prog 39 #[.string s] w fun e w' => e = .returned (.agg #[.int .i64 0, .string ⟨#[]⟩, .int .i64 0, .int .i64 1]) ∧ Below w.heap.size w w' := by
  have HC1 := Lib.hid (fun W => codVarRead_any s W (by omega) (some (v, k)) h1)
  simp only [cvr] at HC1
  have HSZ := Lib.hid (show s.data.toList.length = s.size by rw [Array.length_toList]; rfl)
  obtain ⟨f1, f2, f3, f4⟩ := vrd_facts _ 0 0 v k (by decide) h1
  have hk1 : (k : Int) ≤ (s.size : Int) := by have := HSZ.out; omega
  have hk2 : k ≤ s.size := by omega
  have hdl := drop_str s k
  have hds := drop_size s k hs
  obtain ⟨t2, ht2⟩ : ∃ t2, s.extract k s.size = t2 := ⟨_, rfl⟩
  rw [ht2] at hdl hds
  have HC2 := Lib.hid (fun W => codVarRead_any t2 W hds (some (v2, k2)) (by rw [hdl]; exact h2))
  simp only [cvr] at HC2
  obtain ⟨g1, g2, g3, g4⟩ := vrd_facts _ 0 0 v2 k2 (by decide) h2
  rw [List.length_drop, HSZ.out] at g3
  have q1 : ¬ 1000000 < (v : Int) := by omega
  have q2 : ¬ 1000000 < (v2 : Int) := by omega
  have q3 : (v : Int) < (v2 : Int) := by omega
  clear hs h1 h2 f1 f2 f3 f4 hdl hds g1 g2 g3 g4 hv hv2 hd
  go_enter Tryd.func39, Tryd.ntmps39
  go_wp2_with (go_at_call 37; (first | ((with_reducible refine (HC1.out _).mono ?_); rintro e_ w0 ⟨rfl, rfl⟩) | ((with_reducible refine (HC2.out _).mono ?_); rintro e_ w0 ⟨rfl, rfl⟩)))
  obtain ⟨X, hX⟩ : ∃ X, X = w.alloc (.cells #[.int .i64 0, .string ⟨#[]⟩, .int .i64 0, .int .i64 1] 67) := ⟨_, rfl⟩
  have hb : X.heap[w.heap.size]? = some (.cells #[.int .i64 0, .string ⟨#[]⟩, .int .i64 0, .int .i64 1] 67 (0, 0)) := by rw [hX]; exact heap_alloc_new w _
  have HX := Lib.hid (show Below w.heap.size w X by rw [hX]; exact (Below.refl _ w).alloc (Nat.le_refl _) _)
  rw [← hX]
  clear hX
  obtain ⟨c0, c1, c2, c3⟩ := laid4 hb
  clear hb
  exact bodyPost_ret (v := .agg #[.int .i64 0, .string ⟨#[]⟩, .int .i64 0, .int .i64 1]) (by simp [results, Tryd.results39, go_sem, c0, c1, c2, c3]; try rfl) rfl ⟨rfl, HX.out⟩
set_option maxHeartbeats 4000000 in
set_option maxRecDepth 100000 in
theorem rho_D2 (s : ByteArray) (w : World) (hs : s.size ≤ 400) (v k v2 k2 : Nat) (h1 : vrd 0 0 s.data.toList = some (v, k)) (h2 : vrd 0 0 (s.data.toList.drop k) = some (v2, k2)) (hv : ¬ 1000000 < v) (hv2 : ¬ 1000000 < v2) (hd : ¬ v < v2) (he : s.size < k + k2 + v2) :
    Calls Tryd.prog 39 #[.string s] w fun e w' => e = .returned (.agg #[.int .i64 0, .string ⟨#[]⟩, .int .i64 0, .int .i64 1]) ∧ Below w.heap.size w w' := by
  have HC1 := Lib.hid (fun W => codVarRead_any s W (by omega) (some (v, k)) h1)
  simp only [cvr] at HC1
  have HSZ := Lib.hid (show s.data.toList.length = s.size by rw [Array.length_toList]; rfl)
  obtain ⟨f1, f2, f3, f4⟩ := vrd_facts _ 0 0 v k (by decide) h1
  have hk1 : (k : Int) ≤ (s.size : Int) := by have := HSZ.out; omega
  have hk2 : k ≤ s.size := by omega
  have hdl := drop_str s k
  have hds := drop_size s k hs
  obtain ⟨t2, ht2⟩ : ∃ t2, s.extract k s.size = t2 := ⟨_, rfl⟩
  rw [ht2] at hdl hds
  have HC2 := Lib.hid (fun W => codVarRead_any t2 W hds (some (v2, k2)) (by rw [hdl]; exact h2))
  simp only [cvr] at HC2
  obtain ⟨g1, g2, g3, g4⟩ := vrd_facts _ 0 0 v2 k2 (by decide) h2
  rw [List.length_drop, HSZ.out] at g3
  have q1 : ¬ 1000000 < (v : Int) := by omega
  have q2 : ¬ 1000000 < (v2 : Int) := by omega
  have q3 : ¬ (v : Int) < (v2 : Int) := fun e => hd (Int.ofNat_lt.1 e)
  have g3' : k2 ≤ s.size - k := by rw [Nat.zero_add] at g3; exact g3
  obtain ⟨y, hy⟩ : ∃ y, s.size - k = y := ⟨_, rfl⟩
  obtain ⟨z, hz⟩ : ∃ z, y - k2 = z := ⟨_, rfl⟩
  have hs' : s.size ≤ 2000000 := Nat.le_trans hs (by decide)
  obtain ⟨q4, q4'⟩ := wsub hk2 hs'
  rw [hy] at q4 q4' g3'
  obtain ⟨q5, q5'⟩ := wsub g3' (show y ≤ 2000000 by rw [← hy]; exact Nat.le_trans (Nat.sub_le _ _) hs')
  rw [hz] at q5 q5'
  have q6 := wid (a := v2) (Nat.le_trans (elim_le hv2) (by decide))
  have q7 := wid (a := v) (Nat.le_trans (elim_le hv) (by decide))
  have q8 : (z : Int) < (v2 : Int) := zlt (by rw [hy]; exact hz) he (by rw [hy]; exact g3') hk2
  clear hs h1 h2 f1 f2 f3 f4 hdl hds g1 g2 g3 g4 hv hv2 hd he hz hy hs' g3'
  go_enter Tryd.func39, Tryd.ntmps39
  go_wp2_with (go_at_call 37; (first | ((with_reducible refine (HC1.out _).mono ?_); rintro e_ w0 ⟨rfl, rfl⟩) | ((with_reducible refine (HC2.out _).mono ?_); rintro e_ w0 ⟨rfl, rfl⟩)))
  obtain ⟨X, hX⟩ : ∃ X, X = w.alloc (.cells #[.int .i64 0, .string ⟨#[]⟩, .int .i64 0, .int .i64 1] 67) := ⟨_, rfl⟩
  have hb : X.heap[w.heap.size]? = some (.cells #[.int .i64 0, .string ⟨#[]⟩, .int .i64 0, .int .i64 1] 67 (0, 0)) := by rw [hX]; exact heap_alloc_new w _
  have HX := Lib.hid (show Below w.heap.size w X by rw [hX]; exact (Below.refl _ w).alloc (Nat.le_refl _) _)
  rw [← hX]
  clear hX
  obtain ⟨c0, c1, c2, c3⟩ := laid4 hb
  clear hb
  exact bodyPost_ret (v := .agg #[.int .i64 0, .string ⟨#[]⟩, .int .i64 0, .int .i64 1]) (by simp [results, Tryd.results39, go_sem, c0, c1, c2, c3]; try rfl) rfl ⟨rfl, HX.out⟩
set_option maxHeartbeats 4000000 in
set_option maxRecDepth 100000 in
theorem rho_E (s : ByteArray) (w : World) (hs : s.size ≤ 400) (v k v2 k2 : Nat) (h1 : vrd 0 0 s.data.toList = some (v, k)) (h2 : vrd 0 0 (s.data.toList.drop k) = some (v2, k2)) (hv : ¬ 1000000 < v) (hv2 : ¬ 1000000 < v2) (hd : ¬ v < v2) (he : ¬ s.size < k + k2 + v2) (a b : Nat) (ha : k + k2 = a) (hb0 : a + v2 = b) :
    Calls Tryd.prog 39 #[.string s] w fun e w' => e = .returned (.agg #[.int .i64 v, .string (s.extract a b), .int .i64 b, .int .i64 0]) ∧ Below w.heap.size w w' := by
  have HC1 := Lib.hid (fun W => codVarRead_any s W (by omega) (some (v, k)) h1)
  simp only [cvr] at HC1
  have HSZ := Lib.hid (show s.data.toList.length = s.size by rw [Array.length_toList]; rfl)
  obtain ⟨f1, f2, f3, f4⟩ := vrd_facts _ 0 0 v k (by decide) h1
  have hk1 : (k : Int) ≤ (s.size : Int) := by have := HSZ.out; omega
  have hk2 : k ≤ s.size := by omega
  have hdl := drop_str s k
  have hds := drop_size s k hs
  obtain ⟨t2, ht2⟩ : ∃ t2, s.extract k s.size = t2 := ⟨_, rfl⟩
  rw [ht2] at hdl hds
  have HC2 := Lib.hid (fun W => codVarRead_any t2 W hds (some (v2, k2)) (by rw [hdl]; exact h2))
  simp only [cvr] at HC2
  obtain ⟨g1, g2, g3, g4⟩ := vrd_facts _ 0 0 v2 k2 (by decide) h2
  rw [List.length_drop, HSZ.out] at g3
  have q1 : ¬ 1000000 < (v : Int) := by omega
  have q2 : ¬ 1000000 < (v2 : Int) := by omega
  have q3 : ¬ (v : Int) < (v2 : Int) := fun e => hd (Int.ofNat_lt.1 e)
  have g3' : k2 ≤ s.size - k := by rw [Nat.zero_add] at g3; exact g3
  obtain ⟨y, hy⟩ : ∃ y, s.size - k = y := ⟨_, rfl⟩
  obtain ⟨z, hz⟩ : ∃ z, y - k2 = z := ⟨_, rfl⟩
  have hs' : s.size ≤ 2000000 := Nat.le_trans hs (by decide)
  obtain ⟨q4, q4'⟩ := wsub hk2 hs'
  rw [hy] at q4 q4' g3'
  obtain ⟨q5, q5'⟩ := wsub g3' (show y ≤ 2000000 by rw [← hy]; exact Nat.le_trans (Nat.sub_le _ _) hs')
  rw [hz] at q5 q5'
  have q6 := wid (a := v2) (Nat.le_trans (elim_le hv2) (by decide))
  have q7 := wid (a := v) (Nat.le_trans (elim_le hv) (by decide))
  have q8 : ¬ (z : Int) < (v2 : Int) := znlt (by rw [hy]; exact hz) he
  obtain ⟨q9, q9'⟩ := wadd (a := k) (b := k2) (Nat.le_trans f4 (by decide)) (Nat.le_trans g4 (by decide))
  rw [ha] at q9 q9'
  have ha2 : a ≤ 2000000 := by rw [← ha]; exact Nat.le_trans (Nat.add_le_add f4 g4) (by decide)
  obtain ⟨q10, q10'⟩ := wadd (a := a) (b := v2) ha2 (Nat.le_trans (elim_le hv2) (by decide))
  rw [hb0] at q10 q10'
  obtain ⟨q11, q13⟩ := bab hb0
  obtain ⟨q12, q14⟩ := bsz ha hb0 he
  clear ha2
  clear hs h1 h2 f1 f2 f3 f4 hdl hds g1 g2 g3 g4 hv hv2 hd he hz hy hs' g3' ha hb0
  go_enter Tryd.func39, Tryd.ntmps39
  go_wp2_with (go_at_call 37; (first | ((with_reducible refine (HC1.out _).mono ?_); rintro e_ w0 ⟨rfl, rfl⟩) | ((with_reducible refine (HC2.out _).mono ?_); rintro e_ w0 ⟨rfl, rfl⟩)))
  obtain ⟨X, hX⟩ : ∃ X, X = w.alloc (.cells #[.int .i64 v, .string (s.extract a b), .int .i64 b, .int .i64 0] 67) := ⟨_, rfl⟩
  have hb : X.heap[w.heap.size]? = some (.cells #[.int .i64 v, .string (s.extract a b), .int .i64 b, .int .i64 0] 67 (0, 0)) := by rw [hX]; exact heap_alloc_new w _
  have HX := Lib.hid (show Below w.heap.size w X by rw [hX]; exact (Below.refl _ w).alloc (Nat.le_refl _) _)
  rw [← hX]
  clear hX
  obtain ⟨c0, c1, c2, c3⟩ := laid4 hb
  clear hb
  exact bodyPost_ret (v := .agg #[.int .i64 v, .string (s.extract a b), .int .i64 b, .int .i64 0]) (by simp [results, Tryd.results39, go_sem, c0, c1, c2, c3]; try rfl) rfl ⟨rfl, HX.out⟩
end Go.Proofs.YtgdbeiadlgkedaaDoor
