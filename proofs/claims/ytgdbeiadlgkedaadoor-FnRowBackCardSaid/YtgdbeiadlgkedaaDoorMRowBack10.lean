/- Contracts and plain laws, several texts in one. -/
import Derived.Test.YtgdbeiadlgkedaaDoorMRowBack9
import Derived.WalkSmall
import Derived.Deep.Slices
import Derived.Deep.Strs
import Derived.RowKit
import Derived.ChangeArms
/- Contracts: the reference reads a row's header. -/
namespace Go.Proofs.YtgdbeiadlgkedaaDoor
open Go.RowKit
set_option linter.unusedVariables false
set_option linter.unusedSimpArgs false

theorem laid4 {X : World} {b : Nat} {v0 v1 v2 v3 : Value} {T : TypeId} (h : X.heap[b]? = some (.cells #[v0, v1, v2, v3] T (0, 0))) :
    X.cell? ⟨b, 0, none⟩ = some v0 ∧ X.cell? ⟨b, 1, none⟩ = some v1 ∧ X.cell? ⟨b, 2, none⟩ = some v2 ∧ X.cell? ⟨b, 3, none⟩ = some v3 :=
  ⟨(blk_cell h 0).trans rfl, (blk_cell h 1).trans rfl, (blk_cell h 2).trans rfl, (blk_cell h 3).trans rfl⟩
theorem wsub {a b : Nat} (h : b ≤ a) (ha : a ≤ 2000000) : wrap64 ((a : Int) - (b : Int)) = ((a - b : Nat) : Int) ∧ IntKind.i64.wrap ((a : Int) - (b : Int)) = ((a - b : Nat) : Int) := by
  have e : wrap64 ((a : Int) - (b : Int)) = ((a - b : Nat) : Int) := by unfold wrap64; omega
  exact ⟨e, by rw [IntWalk.i64_in _ (by omega)]; omega⟩
theorem wadd {a b : Nat} (ha : a ≤ 2000000) (hb : b ≤ 2000000) : wrap64 ((a : Int) + (b : Int)) = ((a + b : Nat) : Int) ∧ IntKind.i64.wrap ((a : Int) + (b : Int)) = ((a + b : Nat) : Int) := by
  have e : wrap64 ((a : Int) + (b : Int)) = ((a + b : Nat) : Int) := by unfold wrap64; omega
  exact ⟨e, by rw [IntWalk.i64_in _ (by omega)]; omega⟩
theorem wid {a : Nat} (ha : a ≤ 2000000) : wrap64 (a : Int) = (a : Int) := by unfold wrap64; omega
theorem zlt {S k k2 v2 z : Nat} (hz : S - k - k2 = z) (he : S < k + k2 + v2) (hk2 : k2 ≤ S - k) (h : k ≤ S) : (z : Int) < (v2 : Int) := by omega
theorem znlt {S k k2 v2 z : Nat} (hz : S - k - k2 = z) (he : ¬ S < k + k2 + v2) : ¬ (z : Int) < (v2 : Int) := by omega
theorem elim_le {a b : Nat} (h : ¬ b < a) : a ≤ b := Nat.le_of_not_lt h
theorem bab {a b c : Nat} (h : a + b = c) : (a : Int) ≤ (c : Int) ∧ a ≤ c := by omega
theorem bsz {k k2 v2 a b S : Nat} (ha : k + k2 = a) (hb : a + v2 = b) (he : ¬ S < k + k2 + v2) : (b : Int) ≤ (S : Int) ∧ b ≤ S := by omega
theorem drop_str (s : ByteArray) (k : Nat) : (s.extract k s.size).data.toList = s.data.toList.drop k := by
  rw [Lib.extract_data, List.take_of_length_le (by rw [List.length_drop, Array.length_toList]; exact Nat.le_refl _)]
theorem drop_size (s : ByteArray) (k : Nat) (h : s.size ≤ 400) : (s.extract k s.size).size ≤ 4294967296 := by
  rw [ByteArray.size_extract]; omega
set_option maxHeartbeats 4000000 in
set_option maxRecDepth 100000 in
theorem rho_A (s : ByteArray) (w : World) (hs : s.size ≤ 400) (h1 : vrd 0 0 s.data.toList = none) :
    Calls Tryd.prog 39 #[.string s] w fun e w' => e = .returned (.agg #[.int .i64 0, .string ⟨#[]⟩, .int .i64 0, .int .i64 1]) ∧ Below w.heap.size w w' := by
  have HC1 := Lib.hid (fun W => codVarRead_any s W (by omega) none h1)
  simp only [cvr] at HC1
  clear hs h1
  go_enter Tryd.func39, Tryd.ntmps39
  go_wp2_with (go_at_call 37; go_loud (refine (HC1.out _).mono ?_; rintro e_ w0 ⟨rfl, rfl⟩))
  obtain ⟨X, hX⟩ : ∃ X, X = w.alloc (.cells #[.int .i64 0, .string ⟨#[]⟩, .int .i64 0, .int .i64 1] 67) := ⟨_, rfl⟩
  have hb : X.heap[w.heap.size]? = some (.cells #[.int .i64 0, .string ⟨#[]⟩, .int .i64 0, .int .i64 1] 67 (0, 0)) := by rw [hX]; exact heap_alloc_new w _
  have HX := Lib.hid (show Below w.heap.size w X by rw [hX]; exact (Below.refl _ w).alloc (Nat.le_refl _) _)
  rw [← hX]
  clear hX
  obtain ⟨c0, c1, c2, c3⟩ := laid4 hb
  clear hb
  exact bodyPost_ret (v := .agg #[.int .i64 0, .string ⟨#[]⟩, .int .i64 0, .int .i64 1]) (by simp [results, Tryd.results39, go_sem, c0, c1, c2, c3]; try rfl) rfl ⟨rfl, HX.out⟩
set_option maxHeartbeats 4000000 in
set_option maxRecDepth 100000 in
theorem rho_B (s : ByteArray) (w : World) (hs : s.size ≤ 400) (v k : Nat) (h1 : vrd 0 0 s.data.toList = some (v, k)) (h2 : vrd 0 0 (s.data.toList.drop k) = none) :
    Calls Tryd.prog 39 #[.string s] w fun e w' => e = .returned (.agg #[.int .i64 0, .string ⟨#[]⟩, .int .i64 0, .int .i64 1]) ∧ Below w.heap.size w w' := by
  have HC1 := Lib.hid (fun W => codVarRead_any s W (by omega) (some (v, k)) h1)
  simp only [cvr] at HC1
  have HSZ := Lib.hid (show s.data.toList.length = s.size by rw [Array.length_toList]; rfl)
  obtain ⟨f1, f2, f3, f4⟩ := vrd_facts _ 0 0 v k (by decide) h1
  have hk1 : (k : Int) ≤ (s.size : Int) := by have := HSZ.out; omega
  have hk2 : k ≤ s.size := by omega
  have hdl := drop_str s k
  have hds := drop_size s k hs
  obtain ⟨t2, ht2⟩ : ∃ t2, s.extract k s.size = t2 := ⟨_, rfl⟩
  rw [ht2] at hdl hds
  have HC2 := Lib.hid (fun W => codVarRead_any t2 W hds none (by rw [hdl]; exact h2))
  simp only [cvr] at HC2
  clear hs h1 h2 f1 f2 f3 f4 hdl hds
  go_enter Tryd.func39, Tryd.ntmps39
  go_wp2_with (go_at_call 37; (first | ((with_reducible refine (HC1.out _).mono ?_); rintro e_ w0 ⟨rfl, rfl⟩) | ((with_reducible refine (HC2.out _).mono ?_); rintro e_ w0 ⟨rfl, rfl⟩)))
  obtain ⟨X, hX⟩ : ∃ X, X = w.alloc (.cells #[.int .i64 0, .string ⟨#[]⟩, .int .i64 0, .int .i64 1] 67) := ⟨_, rfl⟩
  have hb : X.heap[w.heap.size]? = some (.cells #[.int .i64 0, .string ⟨#[]⟩, .int .i64 0, .int .i64 1] 67 (0, 0)) := by rw [hX]; exact heap_alloc_new w _
  have HX := Lib.hid (show Below w.heap.size w X by rw [hX]; exact (Below.refl _ w).alloc (Nat.le_refl _) _)
  rw [← hX]
  clear hX
  obtain ⟨c0, c1, c2, c3⟩ := laid4 hb
  clear hb
  exact bodyPost_ret (v := .agg #[.int .i64 0, .string ⟨#[]⟩, .int .i64 0, .int .i64 1]) (by simp [results, Tryd.results39, go_sem, c0, c1, c2, c3]; try rfl) rfl ⟨rfl, HX.out⟩
set_option maxHeartbeats 4000000 in
set_option maxRecDepth 100000 in
theorem rho_C1 (s : ByteArray) (w : World) (hs : s.size ≤ 400) (v k v2 k2 : Nat) (h1 : vrd 0 0 s.data.toList = some (v, k)) (h2 : vrd 0 0 (s.data.toList.drop k) = some (v2, k2)) (hv : 1000000 < v) :
    Calls Tryd.prog 39 #[.string s] w fun e w' => e = .returned (.agg #[.int .i64 0, .string ⟨#[]⟩, .int .i64 0, .int .i64 2]) ∧ Below w.heap.size w w' := by
  have HC1 := Lib.hid (fun W => codVarRead_any s W (by omega) (some (v, k)) h1)
  simp only [cvr] at HC1
  have HSZ := Lib.hid (show s.data.toList.length = s.size by rw [Array.length_toList]; rfl)
  obtain ⟨f1, f2, f3, f4⟩ := vrd_facts _ 0 0 v k (by decide) h1
  have hk1 : (k : Int) ≤ (s.size : Int) := by have := HSZ.out; omega
  have hk2 : k ≤ s.size := by omega
  have hdl := drop_str s k
  have hds := drop_size s k hs
  obtain ⟨t2, ht2⟩ : ∃ t2, s.extract k s.size = t2 := ⟨_, rfl⟩
  rw [ht2] at hdl hds
  have HC2 := Lib.hid (fun W => codVarRead_any t2 W hds (some (v2, k2)) (by rw [hdl]; exact h2))
  simp only [cvr] at HC2
  obtain ⟨g1, g2, g3, g4⟩ := vrd_facts _ 0 0 v2 k2 (by decide) h2
  rw [List.length_drop, HSZ.out] at g3
  have q1 : 1000000 < (v : Int) := by omega
  clear hs h1 h2 f1 f2 f3 f4 hdl hds g1 g2 g3 g4 hv
  go_enter Tryd.func39, Tryd.ntmps39
  go_wp2_with (go_at_call 37; (first | ((with_reducible refine (HC1.out _).mono ?_); rintro e_ w0 ⟨rfl, rfl⟩) | ((with_reducible refine (HC2.out _).mono ?_); rintro e_ w0 ⟨rfl, rfl⟩)))
  obtain ⟨X, hX⟩ : ∃ X, X = w.alloc (.cells #[.int .i64 0, .string ⟨#[]⟩, .int .i64 0, .int .i64 2] 67) := ⟨_, rfl⟩
  have hb : X.heap[w.heap.size]? = some (.cells #[.int .i64 0, .string ⟨#[]⟩, .int .i64 0, .int .i64 2] 67 (0, 0)) := by rw [hX]; exact heap_alloc_new w _
  have HX := Lib.hid (show Below w.heap.size w X by rw [hX]; exact (Below.refl _ w).alloc (Nat.le_refl _) _)
  rw [← hX]
  clear hX
  obtain ⟨c0, c1, c2, c3⟩ := laid4 hb
  clear hb
  exact bodyPost_ret (v := .agg #[.int .i64 0, .string ⟨#[]⟩, .int .i64 0, .int .i64 2]) (by simp [results, Tryd.results39, go_sem, c0, c1, c2, c3]; try rfl) rfl ⟨rfl, HX.out⟩
set_option maxHeartbeats 4000000 in
set_option maxRecDepth 100000 in
theorem rho_C2 (s : ByteArray) (w : World) (hs : s.size ≤ 400) (v k v2 k2 : Nat) (h1 : vrd 0 0 s.data.toList = some (v, k)) (h2 : vrd 0 0 (s.data.toList.drop k) = some (v2, k2)) (hv : ¬ 1000000 < v) (hv2 : 1000000 < v2) :
    Calls Tryd.prog 39 #[.string s] w fun e w' => e = .returned (.agg #[.int .i64 0, .string ⟨#[]⟩, .int .i64 0, .int .i64 2]) ∧ Below w.heap.size w w' := by
  have HC1 := Lib.hid (fun W => codVarRead_any s W (by omega) (some (v, k)) h1)
  simp only [cvr] at HC1
  have HSZ := Lib.hid (show s.data.toList.length = s.size by rw [Array.length_toList]; rfl)
  obtain ⟨f1, f2, f3, f4⟩ := vrd_facts _ 0 0 v k (by decide) h1
  have hk1 : (k : Int) ≤ (s.size : Int) := by have := HSZ.out; omega
  have hk2 : k ≤ s.size := by omega
  have hdl := drop_str s k
  have hds := drop_size s k hs
  obtain ⟨t2, ht2⟩ : ∃ t2, s.extract k s.size = t2 := ⟨_, rfl⟩
  rw [ht2] at hdl hds
  have HC2 := Lib.hid (fun W => codVarRead_any t2 W hds (some (v2, k2)) (by rw [hdl]; exact h2))
  simp only [cvr] at HC2
  obtain ⟨g1, g2, g3, g4⟩ := vrd_facts _ 0 0 v2 k2 (by decide) h2
  rw [List.length_drop, HSZ.out] at g3
  have q1 : ¬ 1000000 < (v : Int) := by omega
  have q2 : 1000000 < (v2 : Int) := by omega
  clear hs h1 h2 f1 f2 f3 f4 hdl hds g1 g2 g3 g4 hv hv2
  go_enter Tryd.func39, Tryd.ntmps39
  go_wp2_with (go_at_call 37; (first | ((with_reducible refine (HC1.out _).mono ?_); rintro e_ w0 ⟨rfl, rfl⟩) | ((with_reducible refine (HC2.out _).mono ?_); rintro e_ w0 ⟨rfl, rfl⟩)))
  obtain ⟨X, hX⟩ : ∃ X, X = w.alloc (.cells #[.int .i64 0, .string ⟨#[]⟩, .int .i64 0, .int .i64 2] 67) := ⟨_, rfl⟩
  have hb : X.heap[w.heap.size]? = some (.cells #[.int .i64 0, .string ⟨#[]⟩, .int .i64 0, .int .i64 2] 67 (0, 0)) := by rw [hX]; exact heap_alloc_new w _
  have HX := Lib.hid (show Below w.heap.size w X by rw [hX]; exact (Below.refl _ w).alloc (Nat.le_refl _) _)
  rw [← hX]
  clear hX
  obtain ⟨c0, c1, c2, c3⟩ := laid4 hb
  clear hb
  exact bodyPost_ret (v := .agg #[.int .i64 0, .string ⟨#[]⟩, .int .i64 0, .int .i64 2]) (by simp [results, Tryd.results39, go_sem, c0, c1, c2, c3]; try rfl) rfl ⟨rfl, HX.out⟩
set_option maxHeartbeats 4000000 in
set_option maxRecDepth 100000 in
theorem rho_D1 (s : ByteArray) (w : World) (hs : s.size ≤ 400) (v k v2 k2 : Nat) (h1 : vrd 0 0 s.data.toList = some (v, k)) (h2 : vrd 0 0 (s.data.toList.drop k) = some (v2, k2)) (hv : ¬ 1000000 < v) (hv2 : ¬ 1000000 < v2) (hd : v < v2) :
    Calls Tryd.prog 39 #[.string s] w fun e w' => e = .returned (.agg #[.int .i64 0, .string ⟨#[]⟩, .int .i64 0, .int .i64 1]) ∧ Below w.heap.size w w' := by
  have HC1 := Lib.hid (fun W => codVarRead_any s W (by omega) (some (v, k)) h1)
  simp only [cvr] at HC1
  have HSZ := Lib.hid (show s.data.toList.length = s.size by rw [Array.length_toList]; rfl)
  obtain ⟨f1, f2, f3, f4⟩ := vrd_facts _ 0 0 v k (by decide) h1
  have hk1 : (k : Int) ≤ (s.size : Int) := by have := HSZ.out; omega
  have hk2 : k ≤ s.size := by omega
  have hdl := drop_str s k
  have hds := drop_size s k hs
  obtain ⟨t2, ht2⟩ : ∃ t2, s.extract k s.size = t2 := ⟨_, rfl⟩
  rw [ht2] at hdl hds
  have HC2 := Lib.hid (fun W => codVarRead_any t2 W hds (some (v2, k2)) (by rw [hdl]; exact h2))
  simp only [cvr] at HC2
  obtain ⟨g1, g2, g3, g4⟩ := vrd_facts _ 0 0 v2 k2 (by decide) h2
  rw [List.length_drop, HSZ.out] at g3
  have q1 : ¬ 1000000 < (v : Int) := by omega
  have q2 : ¬ 1000000 < (v2 : Int) := by omega
  have q3 : (v : Int) < (v2 : Int) := by omega
  clear hs h1 h2 f1 f2 f3 f4 hdl hds g1 g2 g3 g4 hv hv2 hd
  go_enter Tryd.func39, Tryd.ntmps39
  go_wp2_with (go_at_call 37; (first | ((with_reducible refine (HC1.out _).mono ?_); rintro e_ w0 ⟨rfl, rfl⟩) | ((with_reducible refine (HC2.out _).mono ?_); rintro e_ w0 ⟨rfl, rfl⟩)))
  obtain ⟨X, hX⟩ : ∃ X, X = w.alloc (.cells #[.int .i64 0, .string ⟨#[]⟩, .int .i64 0, .int .i64 1] 67) := ⟨_, rfl⟩
  have hb : X.heap[w.heap.size]? = some (.cells #[.int .i64 0, .string ⟨#[]⟩, .int .i64 0, .int .i64 1] 67 (0, 0)) := by rw [hX]; exact heap_alloc_new w _
  have HX := Lib.hid (show Below w.heap.size w X by rw [hX]; exact (Below.refl _ w).alloc (Nat.le_refl _) _)
  rw [← hX]
  clear hX
  obtain ⟨c0, c1, c2, c3⟩ := laid4 hb
  clear hb
  exact bodyPost_ret (v := .agg #[.int .i64 0, .string ⟨#[]⟩, .int .i64 0, .int .i64 1]) (by simp [results, Tryd.results39, go_sem, c0, c1, c2, c3]; try rfl) rfl ⟨rfl, HX.out⟩
set_option maxHeartbeats 4000000 in
set_option maxRecDepth 100000 in
theorem rho_D2 (s : ByteArray) (w : World) (hs : s.size ≤ 400) (v k v2 k2 : Nat) (h1 : vrd 0 0 s.data.toList = some (v, k)) (h2 : vrd 0 0 (s.data.toList.drop k) = some (v2, k2)) (hv : ¬ 1000000 < v) (hv2 : ¬ 1000000 < v2) (hd : ¬ v < v2) (he : s.size < k + k2 + v2) :
    Calls Tryd.prog 39 #[.string s] w fun e w' => e = .returned (.agg #[.int .i64 0, .string ⟨#[]⟩, .int .i64 0, .int .i64 1]) ∧ Below w.heap.size w w' := by
  have HC1 := Lib.hid (fun W => codVarRead_any s W (by omega) (some (v, k)) h1)
  simp only [cvr] at HC1
  have HSZ := Lib.hid (show s.data.toList.length = s.size by rw [Array.length_toList]; rfl)
  obtain ⟨f1, f2, f3, f4⟩ := vrd_facts _ 0 0 v k (by decide) h1
  have hk1 : (k : Int) ≤ (s.size : Int) := by have := HSZ.out; omega
  have hk2 : k ≤ s.size := by omega
  have hdl := drop_str s k
  have hds := drop_size s k hs
  obtain ⟨t2, ht2⟩ : ∃ t2, s.extract k s.size = t2 := ⟨_, rfl⟩
  rw [ht2] at hdl hds
  have HC2 := Lib.hid (fun W => codVarRead_any t2 W hds (some (v2, k2)) (by rw [hdl]; exact h2))
  simp only [cvr] at HC2
  obtain ⟨g1, g2, g3, g4⟩ := vrd_facts _ 0 0 v2 k2 (by decide) h2
  rw [List.length_drop, HSZ.out] at g3
  have q1 : ¬ 1000000 < (v : Int) := by omega
  have q2 : ¬ 1000000 < (v2 : Int) := by omega
  have q3 : ¬ (v : Int) < (v2 : Int) := fun e => hd (Int.ofNat_lt.1 e)
  have g3' : k2 ≤ s.size - k := by rw [Nat.zero_add] at g3; exact g3
  obtain ⟨y, hy⟩ : ∃ y, s.size - k = y := ⟨_, rfl⟩
  obtain ⟨z, hz⟩ : ∃ z, y - k2 = z := ⟨_, rfl⟩
  have hs' : s.size ≤ 2000000 := Nat.le_trans hs (by decide)
  obtain ⟨q4, q4'⟩ := wsub hk2 hs'
  rw [hy] at q4 q4' g3'
  obtain ⟨q5, q5'⟩ := wsub g3' (show y ≤ 2000000 by rw [← hy]; exact Nat.le_trans (Nat.sub_le _ _) hs')
  rw [hz] at q5 q5'
  have q6 := wid (a := v2) (Nat.le_trans (elim_le hv2) (by decide))
  have q7 := wid (a := v) (Nat.le_trans (elim_le hv) (by decide))
  have q8 : (z : Int) < (v2 : Int) := zlt (by rw [hy]; exact hz) he (by rw [hy]; exact g3') hk2
  clear hs h1 h2 f1 f2 f3 f4 hdl hds g1 g2 g3 g4 hv hv2 hd he hz hy hs' g3'
  go_enter Tryd.func39, Tryd.ntmps39
  go_wp2_with (go_at_call 37; (first | ((with_reducible refine (HC1.out _).mono ?_); rintro e_ w0 ⟨rfl, rfl⟩) | ((with_reducible refine (HC2.out _).mono ?_); rintro e_ w0 ⟨rfl, rfl⟩)))
  obtain ⟨X, hX⟩ : ∃ X, X = w.alloc (.cells #[.int .i64 0, .string ⟨#[]⟩, .int .i64 0, .int .i64 1] 67) := ⟨_, rfl⟩
  have hb : X.heap[w.heap.size]? = some (.cells #[.int .i64 0, .string ⟨#[]⟩, .int .i64 0, .int .i64 1] 67 (0, 0)) := by rw [hX]; exact heap_alloc_new w _
  have HX := Lib.hid (show Below w.heap.size w X by rw [hX]; exact (Below.refl _ w).alloc (Nat.le_refl _) _)
  rw [← hX]
  clear hX
  obtain ⟨c0, c1, c2, c3⟩ := laid4 hb
  clear hb
  exact bodyPost_ret (v := .agg #[.int .i64 0, .string ⟨#[]⟩, .int .i64 0, .int .i64 1]) (by simp [results, Tryd.results39, go_sem, c0, c1, c2, c3]; try rfl) rfl ⟨rfl, HX.out⟩
set_option maxHeartbeats 4000000 in
set_option maxRecDepth 100000 in
theorem rho_E (s : ByteArray) (w : World) (hs : s.size ≤ 400) (v k v2 k2 : Nat) (h1 : vrd 0 0 s.data.toList = some (v, k)) (h2 : vrd 0 0 (s.data.toList.drop k) = some (v2, k2)) (hv : ¬ 1000000 < v) (hv2 : ¬ 1000000 < v2) (hd : ¬ v < v2) (he : ¬ s.size < k + k2 + v2) (a b : Nat) (ha : k + k2 = a) (hb0 : a + v2 = b) :
    Calls Tryd.prog 39 #[.string s] w fun e w' => e = .returned (.agg #[.int .i64 v, .string (s.extract a b), .int .i64 b, .int .i64 0]) ∧ Below w.heap.size w w' := by
  have HC1 := Lib.hid (fun W => codVarRead_any s W (by omega) (some (v, k)) h1)
  simp only [cvr] at HC1
  have HSZ := Lib.hid (show s.data.toList.length = s.size by rw [Array.length_toList]; rfl)
  obtain ⟨f1, f2, f3, f4⟩ := vrd_facts _ 0 0 v k (by decide) h1
  have hk1 : (k : Int) ≤ (s.size : Int) := by have := HSZ.out; omega
  have hk2 : k ≤ s.size := by omega
  have hdl := drop_str s k
  have hds := drop_size s k hs
  obtain ⟨t2, ht2⟩ : ∃ t2, s.extract k s.size = t2 := ⟨_, rfl⟩
  rw [ht2] at hdl hds
  have HC2 := Lib.hid (fun W => codVarRead_any t2 W hds (some (v2, k2)) (by rw [hdl]; exact h2))
  simp only [cvr] at HC2
  obtain ⟨g1, g2, g3, g4⟩ := vrd_facts _ 0 0 v2 k2 (by decide) h2
  rw [List.length_drop, HSZ.out] at g3
  have q1 : ¬ 1000000 < (v : Int) := by omega
  have q2 : ¬ 1000000 < (v2 : Int) := by omega
  have q3 : ¬ (v : Int) < (v2 : Int) := fun e => hd (Int.ofNat_lt.1 e)
  have g3' : k2 ≤ s.size - k := by rw [Nat.zero_add] at g3; exact g3
  obtain ⟨y, hy⟩ : ∃ y, s.size - k = y := ⟨_, rfl⟩
  obtain ⟨z, hz⟩ : ∃ z, y - k2 = z := ⟨_, rfl⟩
  have hs' : s.size ≤ 2000000 := Nat.le_trans hs (by decide)
  obtain ⟨q4, q4'⟩ := wsub hk2 hs'
  rw [hy] at q4 q4' g3'
  obtain ⟨q5, q5'⟩ := wsub g3' (show y ≤ 2000000 by rw [← hy]; exact Nat.le_trans (Nat.sub_le _ _) hs')
  rw [hz] at q5 q5'
  have q6 := wid (a := v2) (Nat.le_trans (elim_le hv2) (by decide))
  have q7 := wid (a := v) (Nat.le_trans (elim_le hv) (by decide))
  have q8 : ¬ (z : Int) < (v2 : Int) := znlt (by rw [hy]; exact hz) he
  obtain ⟨q9, q9'⟩ := wadd (a := k) (b := k2) (Nat.le_trans f4 (by decide)) (Nat.le_trans g4 (by decide))
  rw [ha] at q9 q9'
  have ha2 : a ≤ 2000000 := by rw [← ha]; exact Nat.le_trans (Nat.add_le_add f4 g4) (by decide)
  obtain ⟨q10, q10'⟩ := wadd (a := a) (b := v2) ha2 (Nat.le_trans (elim_le hv2) (by decide))
  rw [hb0] at q10 q10'
  obtain ⟨q11, q13⟩ := bab hb0
  obtain ⟨q12, q14⟩ := bsz ha hb0 he
  clear ha2
  clear hs h1 h2 f1 f2 f3 f4 hdl hds g1 g2 g3 g4 hv hv2 hd he hz hy hs' g3' ha hb0
  go_enter Tryd.func39, Tryd.ntmps39
  go_wp2_with (go_at_call 37; (first | ((with_reducible refine (HC1.out _).mono ?_); rintro e_ w0 ⟨rfl, rfl⟩) | ((with_reducible refine (HC2.out _).mono ?_); rintro e_ w0 ⟨rfl, rfl⟩)))
  obtain ⟨X, hX⟩ : ∃ X, X = w.alloc (.cells #[.int .i64 v, .string (s.extract a b), .int .i64 b, .int .i64 0] 67) := ⟨_, rfl⟩
  have hb : X.heap[w.heap.size]? = some (.cells #[.int .i64 v, .string (s.extract a b), .int .i64 b, .int .i64 0] 67 (0, 0)) := by rw [hX]; exact heap_alloc_new w _
  have HX := Lib.hid (show Below w.heap.size w X by rw [hX]; exact (Below.refl _ w).alloc (Nat.le_refl _) _)
  rw [← hX]
  clear hX
  obtain ⟨c0, c1, c2, c3⟩ := laid4 hb
  clear hb
  exact bodyPost_ret (v := .agg #[.int .i64 v, .string (s.extract a b), .int .i64 b, .int .i64 0]) (by simp [results, Tryd.results39, go_sem, c0, c1, c2, c3]; try rfl) rfl ⟨rfl, HX.out⟩
end Go.Proofs.YtgdbeiadlgkedaaDoor

/- Contracts: a row's header is read. -/
namespace Go.Proofs.YtgdbeiadlgkedaaDoor
open Go.RowKit
set_option linter.unusedVariables false
set_option linter.unusedSimpArgs false

set_option maxHeartbeats 4000000 in
set_option maxRecDepth 100000 in
theorem rrh_A (B : Nat) (pe pl : Addr) (r g : Nat) (l : List UInt8) (w : World) (h : Rd r g l 0 w) (he : Env B pe pl w) (hBr : B ≤ r) (hB : B ≤ w.heap.size) (h1 : vrd 0 0 l = none) :
    Calls Tryd.prog 90 #[rdI r] w fun e w' => ∃ (x : Int) (ev : Value), e = .returned (.tuple #[.int .i64 x, .slice none 0 0, ev]) ∧ Fell r g l w w' ev := by
  have HE := Lib.hid (And.intro he (And.intro hBr hB))
  have HC := Lib.hid (decVarI_bad B pe pl r g l 0 w h he hBr (by rw [List.drop_zero]; exact h1))
  clear h he hBr hB h1
  go_enter Tryd.func90, Tryd.ntmps90
  go_wp2_with (go_at_call 60; go_loud (refine HC.out.mono ?_; rintro e_ w1 ⟨ev, rfl, h1⟩; obtain ⟨a, s, rfl, h2⟩ : ∃ a s, ev = errV a ∧ Hid (w1.cell? a = some (.string s) ∧ s.data.toList ≠ []) := (by obtain ⟨a, s, e1, e2, e3⟩ := h1.2.1; exact ⟨a, s, e1, Lib.hid ⟨e2, e3⟩⟩); have H1 := Lib.hid h1; clear h1))
  go_ret3
  exact ⟨0, errV a, rfl, H1.out⟩
set_option maxHeartbeats 4000000 in
set_option maxRecDepth 100000 in
theorem rrh_B (B : Nat) (pe pl : Addr) (r g : Nat) (l : List UInt8) (w : World) (h : Rd r g l 0 w) (he : Env B pe pl w) (hBr : B ≤ r) (hB : B ≤ w.heap.size) (v k : Nat) (h1 : vrd 0 0 l = some (v, k)) (h2 : vrd 0 0 (l.drop k) = none) :
    Calls Tryd.prog 90 #[rdI r] w fun e w' => ∃ (x : Int) (ev : Value), e = .returned (.tuple #[.int .i64 x, .slice none 0 0, ev]) ∧ Fell r g l w w' ev := by
  have HE := Lib.hid (And.intro he (And.intro hBr hB))
  have HC := Lib.hid (decVarI_ok B pe pl r g l 0 v k w h he hBr (by rw [List.drop_zero]; exact h1))
  rw [Nat.zero_add] at HC
  have HV2 := Lib.hid h2
  clear h he hBr hB h1 h2
  go_enter Tryd.func90, Tryd.ntmps90
  go_wp2_with (go_at_call 60; (first | ((with_reducible refine HC.out.mono ?_); rintro e_ w1 ⟨rfl, h1, h2⟩; have H1 := Lib.hid h1; have H2 := Lib.hid h2; clear h1 h2) | ((with_reducible refine (decVarI_bad B pe pl r g l k w1 H2.out (HE.out.1.below (grown_below H1.out HE.out.2.2 HE.out.2.1)) HE.out.2.1 HV2.out).mono ?_); rintro e_ w2 ⟨ev, rfl, h1⟩; obtain ⟨a, s, rfl, h2⟩ : ∃ a s, ev = errV a ∧ Hid (w2.cell? a = some (.string s) ∧ s.data.toList ≠ []) := (by obtain ⟨a, s, e1, e2, e3⟩ := h1.2.1; exact ⟨a, s, e1, Lib.hid ⟨e2, e3⟩⟩); have H3 := Lib.hid h1; clear h1)))
  go_ret3
  exact ⟨_, errV a, rfl, grown_trans H1.out H3.out.1, H3.out.2.1, H3.out.2.2⟩
set_option maxHeartbeats 4000000 in
set_option maxRecDepth 100000 in
theorem rrh_D1 (B : Nat) (pe pl : Addr) (r g : Nat) (l : List UInt8) (w : World) (h : Rd r g l 0 w) (he : Env B pe pl w) (hBr : B ≤ r) (hB : B ≤ w.heap.size) (v k v2 k2 : Nat) (h1 : vrd 0 0 l = some (v, k)) (h2 : vrd 0 0 (l.drop k) = some (v2, k2)) (hv : ¬ 1000000 < v) (hv2 : ¬ 1000000 < v2) (hd : v < v2) :
    Calls Tryd.prog 90 #[rdI r] w fun e w' => ∃ (x : Int) (ev : Value), e = .returned (.tuple #[.int .i64 x, .slice none 0 0, ev]) ∧ Fell r g l w w' ev := by
  have HE := Lib.hid (And.intro he (And.intro hBr hB))
  have HC := Lib.hid (decVarI_ok B pe pl r g l 0 v k w h he hBr (by rw [List.drop_zero]; exact h1))
  rw [Nat.zero_add] at HC
  have HV2 := Lib.hid h2
  have q6 := wid (a := v2) (Nat.le_trans (elim_le hv2) (by decide))
  have q7 := wid (a := v) (Nat.le_trans (elim_le hv) (by decide))
  have hz : v2 ≠ 0 := Nat.ne_of_gt (Nat.lt_of_le_of_lt (Nat.zero_le _) hd)
  have z0 : ((v2 : Int) == 0) = false := by rw [beq_eq_false_iff_ne]; exact fun e => hz (Int.natCast_eq_zero.1 e)
  have q3 : (v : Int) < (v2 : Int) := Int.ofNat_lt.2 hd
  clear h he hBr hB h1 h2 hv hv2 hd hz
  go_enter Tryd.func90, Tryd.ntmps90
  go_wp2_with (first
    | (go_at_call 60; (first | ((with_reducible refine HC.out.mono ?_); rintro e_ w1 ⟨rfl, h1, h2⟩; have H1 := Lib.hid h1; have H2 := Lib.hid h2; clear h1 h2) | ((with_reducible refine (decVarI_ok B pe pl r g l k v2 k2 w1 H2.out (HE.out.1.below (grown_below H1.out HE.out.2.2 HE.out.2.1)) HE.out.2.1 HV2.out).mono ?_); rintro e_ w2 ⟨rfl, h1, h2⟩; have H3 := Lib.hid (grown_trans H1.out h1); have H4 := Lib.hid h2; clear h1 h2)))
    | (go_at_call 95; go_loud (refine (errNew_any _ _).mono ?_; rintro e_ w3 ⟨rfl, rfl⟩)))
  go_ret3
  exact ⟨_, _, rfl, err_new _ (by simp) H3.out H4.out⟩
set_option maxHeartbeats 4000000 in
set_option maxRecDepth 100000 in
theorem rrh_D2 (B : Nat) (pe pl : Addr) (r g : Nat) (l : List UInt8) (w : World) (h : Rd r g l 0 w) (he : Env B pe pl w) (hBr : B ≤ r) (hB : B ≤ w.heap.size) (v k v2 k2 : Nat) (h1 : vrd 0 0 l = some (v, k)) (h2 : vrd 0 0 (l.drop k) = some (v2, k2)) (hv : ¬ 1000000 < v) (hv2 : ¬ 1000000 < v2) (hd : ¬ v < v2) (hz : v2 ≠ 0) (hl : ¬ k + k2 + v2 ≤ l.length) :
    Calls Tryd.prog 90 #[rdI r] w fun e w' => ∃ (x : Int) (ev : Value), e = .returned (.tuple #[.int .i64 x, .slice none 0 0, ev]) ∧ Fell r g l w w' ev := by
  have HE := Lib.hid (And.intro he (And.intro hBr hB))
  have HC := Lib.hid (decVarI_ok B pe pl r g l 0 v k w h he hBr (by rw [List.drop_zero]; exact h1))
  rw [Nat.zero_add] at HC
  have HV2 := Lib.hid h2
  have q6 := wid (a := v2) (Nat.le_trans (elim_le hv2) (by decide))
  have q7 := wid (a := v) (Nat.le_trans (elim_le hv) (by decide))
  have z0 : ((v2 : Int) == 0) = false := by rw [beq_eq_false_iff_ne]; exact fun e => hz (Int.natCast_eq_zero.1 e)
  have q3 : ¬ (v : Int) < (v2 : Int) := fun e => hd (Int.ofNat_lt.1 e)
  have km := mk_bytes v2 (elim_le hv2)
  have HN := Lib.hid (And.intro hz (And.intro hl (elim_le hv2)))
  clear h he hBr hB h1 h2 hv hv2 hd hz hl
  go_enter Tryd.func90, Tryd.ntmps90
  go_wp2_with (first
    | (go_at_call 60; (first | ((with_reducible refine HC.out.mono ?_); rintro e_ w1 ⟨rfl, h1, h2⟩; have H1 := Lib.hid h1; have H2 := Lib.hid h2; clear h1 h2) | ((with_reducible refine (decVarI_ok B pe pl r g l k v2 k2 w1 H2.out (HE.out.1.below (grown_below H1.out HE.out.2.2 HE.out.2.1)) HE.out.2.1 HV2.out).mono ?_); rintro e_ w2 ⟨rfl, h1, h2⟩; have H3 := Lib.hid (grown_trans H1.out h1); have H4 := Lib.hid h2; clear h1 h2)))
    | (go_at_call 94; go_loud (refine (fix_bad B pe pl r g l (k + k2) w2.heap.size v2 (madeCells #[.int .u8 0] (v2 * 1)) 5 (w2.alloc (mkz v2)) (H4.out.alloc _) (HE.out.1.below ((grown_below H3.out HE.out.2.2 HE.out.2.1).alloc (Nat.le_trans HE.out.2.2 H3.out.size) _)) HE.out.2.1 (Nat.le_trans HE.out.2.2 H3.out.size) (Nat.pos_of_ne_zero HN.out.1) (Nat.le_trans HN.out.2.2 (by decide)) HN.out.2.1 (heap_alloc_new w2 _) (H4.out.ge (mkz v2)).1 (H4.out.ge (mkz v2)).2 (mkz_size v2)).mono ?_; rintro e_ w3 ⟨rfl, h1, h2⟩; have H5 := Lib.hid h1; have H6 := Lib.hid (Two.grown (grown_alloc H3.out _) h2 H3.out.size); clear h1 h2)))
  go_ret3
  exact ⟨_, _, rfl, H6.out, (HE.out.1.below (grown_below H6.out HE.out.2.2 HE.out.2.1)).errE, _, H5.out⟩
set_option maxHeartbeats 4000000 in
set_option maxRecDepth 100000 in
theorem rrh_E0 (B : Nat) (pe pl : Addr) (r g : Nat) (l : List UInt8) (w : World) (h : Rd r g l 0 w) (he : Env B pe pl w) (hBr : B ≤ r) (hB : B ≤ w.heap.size) (v k k2 : Nat) (h1 : vrd 0 0 l = some (v, k)) (h2 : vrd 0 0 (l.drop k) = some (0, k2)) (hv : ¬ 1000000 < v) :
    Calls Tryd.prog 90 #[rdI r] w fun e w' => e = .returned (.tuple #[.int .i64 v, .slice none 0 0, .nilIface]) ∧ w.grownBy w' (some r) ∧ Rd r g l (k + k2) w' := by
  have HE := Lib.hid (And.intro he (And.intro hBr hB))
  have HC := Lib.hid (decVarI_ok B pe pl r g l 0 v k w h he hBr (by rw [List.drop_zero]; exact h1))
  rw [Nat.zero_add] at HC
  have HV2 := Lib.hid h2
  have q6 : wrap64 0 = 0 := by unfold wrap64; omega
  have q7 := wid (a := v) (Nat.le_trans (elim_le hv) (by decide))
  clear h he hBr hB h1 h2 hv
  go_enter Tryd.func90, Tryd.ntmps90
  go_wp2_with (go_at_call 60; (first | ((with_reducible refine HC.out.mono ?_); rintro e_ w1 ⟨rfl, h1, h2⟩; have H1 := Lib.hid h1; have H2 := Lib.hid h2; clear h1 h2) | ((with_reducible refine (decVarI_ok B pe pl r g l k 0 k2 w1 H2.out (HE.out.1.below (grown_below H1.out HE.out.2.2 HE.out.2.1)) HE.out.2.1 HV2.out).mono ?_); rintro e_ w2 ⟨rfl, h1, h2⟩; have H3 := Lib.hid (grown_trans H1.out h1); have H4 := Lib.hid h2; clear h1 h2)))
  go_ret3
  exact ⟨rfl, H3.out, H4.out⟩
set_option maxHeartbeats 4000000 in
set_option maxRecDepth 100000 in
theorem rrh_E1 (B : Nat) (pe pl : Addr) (r g : Nat) (l : List UInt8) (w : World) (h : Rd r g l 0 w) (he : Env B pe pl w) (hBr : B ≤ r) (hB : B ≤ w.heap.size) (v k v2 k2 : Nat) (h1 : vrd 0 0 l = some (v, k)) (h2 : vrd 0 0 (l.drop k) = some (v2, k2)) (hv : ¬ 1000000 < v) (hv2 : ¬ 1000000 < v2) (hd : ¬ v < v2) (hz : v2 ≠ 0) (hl : k + k2 + v2 ≤ l.length) :
    Calls Tryd.prog 90 #[rdI r] w fun e w' => ∃ d : Nat, e = .returned (.tuple #[.int .i64 v, .slice (some ⟨d, 0, none⟩) v2 v2, .nilIface]) ∧ At w' ⟨d, 0, none⟩ ((l.drop (k + k2)).take v2) ∧ w.grownBy w' (some r) ∧ Rd r g l (k + k2 + v2) w' := by
  have HE := Lib.hid (And.intro he (And.intro hBr hB))
  have HC := Lib.hid (decVarI_ok B pe pl r g l 0 v k w h he hBr (by rw [List.drop_zero]; exact h1))
  rw [Nat.zero_add] at HC
  have HV2 := Lib.hid h2
  have q6 := wid (a := v2) (Nat.le_trans (elim_le hv2) (by decide))
  have q7 := wid (a := v) (Nat.le_trans (elim_le hv) (by decide))
  have z0 : ((v2 : Int) == 0) = false := by rw [beq_eq_false_iff_ne]; exact fun e => hz (Int.natCast_eq_zero.1 e)
  have q3 : ¬ (v : Int) < (v2 : Int) := fun e => hd (Int.ofNat_lt.1 e)
  have km := mk_bytes v2 (elim_le hv2)
  have HN := Lib.hid (And.intro hz (And.intro hl (elim_le hv2)))
  clear h he hBr hB h1 h2 hv hv2 hd hz hl
  go_enter Tryd.func90, Tryd.ntmps90
  go_wp2_with (first
    | (go_at_call 60; (first | ((with_reducible refine HC.out.mono ?_); rintro e_ w1 ⟨rfl, h1, h2⟩; have H1 := Lib.hid h1; have H2 := Lib.hid h2; clear h1 h2) | ((with_reducible refine (decVarI_ok B pe pl r g l k v2 k2 w1 H2.out (HE.out.1.below (grown_below H1.out HE.out.2.2 HE.out.2.1)) HE.out.2.1 HV2.out).mono ?_); rintro e_ w2 ⟨rfl, h1, h2⟩; have H3 := Lib.hid (grown_trans H1.out h1); have H4 := Lib.hid h2; clear h1 h2)))
    | (go_at_call 94; go_loud (refine (fix_ok r g l (k + k2) w2.heap.size v2 (madeCells #[.int .u8 0] (v2 * 1)) 5 (w2.alloc (mkz v2)) (H4.out.alloc _) (Nat.pos_of_ne_zero HN.out.1) HN.out.2.1 (heap_alloc_new w2 _) (H4.out.ge (mkz v2)).1 (H4.out.ge (mkz v2)).2 (mkz_size v2)).mono ?_; rintro e_ w3 ⟨rfl, h1, h3, h2⟩; have H5 := Lib.hid h1; have H7 := Lib.hid h3; have H6 := Lib.hid (Two.grown (grown_alloc H3.out _) h2 H3.out.size); clear h1 h2 h3)))
  go_ret3
  exact ⟨_, rfl, H7.out, H6.out, H5.out⟩
end Go.Proofs.YtgdbeiadlgkedaaDoor

/- The walk of the statement on the reading of a row's header. -/
namespace Go.Proofs.YtgdbeiadlgkedaaDoor
open Go.RowKit
set_option linter.unusedVariables false
set_option linter.unusedSimpArgs false

theorem conv_backN (W : World) (d n : Nat) (l : List UInt8) (h : At W ⟨d, 0, none⟩ l) (hl : l.length = n) (m : Nat) :
    (convert 29 9 (.slice (some ⟨d, 0, none⟩) n n)).run Tryd.prog (W.drewN m) = .ok (.string ⟨l.toArray⟩) (W.drewN m) := by
  subst hl
  exact run_convert_bytes_back (P := Tryd.prog) (W.drewN m) 29 9 5 ⟨d, 0, none⟩ l.length l Tryd.underlying29 Tryd.underlying5 Tryd.underlying9 (fun j hj => by
    rw [Lib.addr_add]
    exact h.get (List.getElem?_eq_getElem hj))
set_option maxHeartbeats 4000000 in
set_option maxRecDepth 100000 in
theorem rhI_E0 (B : Nat) (pe pl : Addr) (t : ByteArray) (w : World) (ht : t.size ≤ 400) (he : Env B pe pl w) (hB : B ≤ w.heap.size) (v K : Nat) (hC : ∀ (r : Nat) (w1 : World), Rd r w.heap.size t.data.toList 0 w1 → Env B pe pl w1 → B ≤ r → B ≤ w1.heap.size → Calls Tryd.prog 90 #[rdI r] w1 fun e w' => e = .returned (.tuple #[.int .i64 v, .slice none 0 0, .nilIface]) ∧ w1.grownBy w' (some r) ∧ Rd r w.heap.size t.data.toList K w') :
    Calls Tryd.prog 40 #[.string t] w fun e w' => e = .returned (.tuple #[.int .i64 v, .string ⟨#[]⟩, .bool false, .int .i64 K, .string ⟨#[]⟩]) ∧ Below w.heap.size w w' := by
  have kc := conv_bytes
  have kz := conv_none
  have HS := Lib.hid (And.intro ht (And.intro hB he))
  clear ht he hB
  have HC := Lib.hid hC
  clear hC
  go_enter Tryd.func40, Tryd.ntmps40
  go_wp2_with (first
    | (go_at_call 45; go_loud (refine (newRd_any w w.heap.size rfl t (Nat.le_trans HS.out.1 (by decide))).mono ?_; rintro e_ w1 ⟨r, rfl, hr1, hr2, hr3⟩; have HR := Lib.hid (And.intro hr1 (And.intro hr2 hr3)); clear hr1 hr2 hr3))
    | (go_at_call 90; go_loud (obtain ⟨a1, a2, a3⟩ := rn_start HS.out.2.1 HS.out.2.2 HR.out.2.1 HR.out.2.2; refine (HC.out r w1 HR.out.1 a1 a2 a3).mono ?_; clear a1 a2 a3; rintro e_ w2 ⟨rfl, h2, h3⟩; have HB := Lib.hid (HR.out.2.1.trans (grown_below h2 HR.out.2.1.size (Nat.le_of_lt HR.out.2.2))); have HRD := Lib.hid h3; obtain ⟨L, hL⟩ : ∃ L, Hid (t.data.toList.length - K = L) := ⟨_, Lib.hid rfl⟩; have qs : (t.size : Int) - (L : Int) = (K : Int) := (by have h1 := h3.le; have h2 : t.data.toList.length = t.size := (by rw [Array.length_toList]; rfl); have := hL.out; omega); have qs2 : IntKind.i64.wrap (K : Int) = (K : Int) := IntWalk.i64_in _ (by have := h3.le; have := h3.len; omega); have qs3 : wrap64 (K : Int) = (K : Int) := IntWalk.wrap64_in _ (by have := h3.le; have := h3.len; omega); clear h2 h3)))
  go_region_with (first
    | (go_at_call 62; refine (len_any r w.heap.size t.data.toList K _ ?rd).mono ?_; (case rd => exact HRD.out.drewN 1); rw [hL.out]; rintro e_ w4 ⟨rfl, q4, rfl⟩)
    | (go_at_call 63; refine (word_nil _).mono ?_; rintro e_ w5 ⟨rfl, rfl⟩))
  all_goals
    go_wp2
    exact bodyPost_ret (v := .tuple #[.int .i64 v, .string ⟨#[]⟩, .bool false, .int .i64 K, .string ⟨#[]⟩]) (by simp [results, Tryd.results40, go_sem]; try rfl) rfl ⟨rfl, below_drewN HB.out (1 + q4)⟩
set_option maxHeartbeats 4000000 in
set_option maxRecDepth 100000 in
theorem rhI_E1 (B : Nat) (pe pl : Addr) (t : ByteArray) (w : World) (ht : t.size ≤ 400) (he : Env B pe pl w) (hB : B ≤ w.heap.size) (v n K : Nat) (bs : List UInt8) (hbs : bs.length = n) (hC : ∀ (r : Nat) (w1 : World), Rd r w.heap.size t.data.toList 0 w1 → Env B pe pl w1 → B ≤ r → B ≤ w1.heap.size → Calls Tryd.prog 90 #[rdI r] w1 fun e w' => ∃ d : Nat, e = .returned (.tuple #[.int .i64 v, .slice (some ⟨d, 0, none⟩) n n, .nilIface]) ∧ At w' ⟨d, 0, none⟩ bs ∧ w1.grownBy w' (some r) ∧ Rd r w.heap.size t.data.toList K w') :
    Calls Tryd.prog 40 #[.string t] w fun e w' => e = .returned (.tuple #[.int .i64 v, .string ⟨bs.toArray⟩, .bool true, .int .i64 K, .string ⟨#[]⟩]) ∧ Below w.heap.size w w' := by
  have kc := conv_bytes
  have kz := conv_none
  have HS := Lib.hid (And.intro ht (And.intro hB he))
  clear ht he hB
  have HC := Lib.hid hC
  have HBS := Lib.hid hbs
  clear hC hbs
  go_enter Tryd.func40, Tryd.ntmps40
  go_wp2_with (first
    | (go_at_call 45; go_loud (refine (newRd_any w w.heap.size rfl t (Nat.le_trans HS.out.1 (by decide))).mono ?_; rintro e_ w1 ⟨r, rfl, hr1, hr2, hr3⟩; have HR := Lib.hid (And.intro hr1 (And.intro hr2 hr3)); clear hr1 hr2 hr3))
    | (go_at_call 90; go_loud (obtain ⟨a1, a2, a3⟩ := rn_start HS.out.2.1 HS.out.2.2 HR.out.2.1 HR.out.2.2; refine (HC.out r w1 HR.out.1 a1 a2 a3).mono ?_; clear a1 a2 a3; rintro e_ w2 ⟨d, rfl, h1, h2, h3⟩; have kb := conv_back w2 d n bs h1 HBS.out; have kbN := conv_backN w2 d n bs h1 HBS.out; have HB := Lib.hid (HR.out.2.1.trans (grown_below h2 HR.out.2.1.size (Nat.le_of_lt HR.out.2.2))); have HRD := Lib.hid h3; obtain ⟨L, hL⟩ : ∃ L, Hid (t.data.toList.length - K = L) := ⟨_, Lib.hid rfl⟩; have qs : (t.size : Int) - (L : Int) = (K : Int) := (by have h1 := h3.le; have h2 : t.data.toList.length = t.size := (by rw [Array.length_toList]; rfl); have := hL.out; omega); have qs2 : IntKind.i64.wrap (K : Int) = (K : Int) := IntWalk.i64_in _ (by have := h3.le; have := h3.len; omega); have qs3 : wrap64 (K : Int) = (K : Int) := IntWalk.wrap64_in _ (by have := h3.le; have := h3.len; omega); clear h1 h2 h3)))
  go_region_with (first
    | (go_at_call 62; refine (len_any r w.heap.size t.data.toList K _ ?rd).mono ?_; (case rd => exact HRD.out.drewN 1); rw [hL.out]; rintro e_ w4 ⟨rfl, q4, rfl⟩)
    | (go_at_call 63; refine (word_nil _).mono ?_; rintro e_ w5 ⟨rfl, rfl⟩))
  all_goals
    go_wp2
    exact bodyPost_ret (v := .tuple #[.int .i64 v, .string ⟨bs.toArray⟩, .bool true, .int .i64 K, .string ⟨#[]⟩]) (by simp [results, Tryd.results40, go_sem]; try rfl) rfl ⟨rfl, below_drewN HB.out (1 + q4)⟩
set_option maxHeartbeats 4000000 in
set_option maxRecDepth 100000 in
theorem rhI_bad (B : Nat) (pe pl : Addr) (t : ByteArray) (w : World) (ht : t.size ≤ 400) (he : Env B pe pl w) (hB : B ≤ w.heap.size) (hC : ∀ (r : Nat) (w1 : World), Rd r w.heap.size t.data.toList 0 w1 → Env B pe pl w1 → B ≤ r → B ≤ w1.heap.size → Calls Tryd.prog 90 #[rdI r] w1 fun e w' => ∃ (x : Int) (ev : Value), e = .returned (.tuple #[.int .i64 x, .slice none 0 0, ev]) ∧ Fell r w.heap.size t.data.toList w1 w' ev) :
    Calls Tryd.prog 40 #[.string t] w fun e w' => ∃ (x : Int) (i : Nat) (s : ByteArray), e = .returned (.tuple #[.int .i64 x, .string ⟨#[]⟩, .bool false, .int .i64 i, .string s]) ∧ s.data.toList ≠ [] ∧ Below w.heap.size w w' := by
  have kc := conv_bytes
  have kz := conv_none
  have HS := Lib.hid (And.intro ht (And.intro hB he))
  clear ht he hB
  have HC := Lib.hid hC
  clear hC
  go_enter Tryd.func40, Tryd.ntmps40
  go_wp2_with (first
    | (go_at_call 45; go_loud (refine (newRd_any w w.heap.size rfl t (Nat.le_trans HS.out.1 (by decide))).mono ?_; rintro e_ w1 ⟨r, rfl, hr1, hr2, hr3⟩; have HR := Lib.hid (And.intro hr1 (And.intro hr2 hr3)); clear hr1 hr2 hr3))
    | (go_at_call 90; go_loud (obtain ⟨a1, a2, a3⟩ := rn_start HS.out.2.1 HS.out.2.2 HR.out.2.1 HR.out.2.2; refine (HC.out r w1 HR.out.1 a1 a2 a3).mono ?_; clear a1 a2 a3; rintro e_ w2 ⟨x, ev, rfl, h2, h4, K, h3⟩; obtain ⟨a, s, rfl, h6⟩ : ∃ a s, ev = errV a ∧ Hid (w2.cell? a = some (.string s) ∧ s.data.toList ≠ []) := (by obtain ⟨a, s, e1, e2, e3⟩ := h4; exact ⟨a, s, e1, Lib.hid ⟨e2, e3⟩⟩); have HEW := h6; have HB := Lib.hid (HR.out.2.1.trans (grown_below h2 HR.out.2.1.size (Nat.le_of_lt HR.out.2.2))); have HRD := Lib.hid h3; obtain ⟨L, hL⟩ : ∃ L, Hid (t.data.toList.length - K = L) := ⟨_, Lib.hid rfl⟩; have qs : (t.size : Int) - (L : Int) = (K : Int) := (by have h1 := h3.le; have h2 : t.data.toList.length = t.size := (by rw [Array.length_toList]; rfl); have := hL.out; omega); have qs2 : IntKind.i64.wrap (K : Int) = (K : Int) := IntWalk.i64_in _ (by have := h3.le; have := h3.len; omega); have qs3 : wrap64 (K : Int) = (K : Int) := IntWalk.wrap64_in _ (by have := h3.le; have := h3.len; omega); clear h2 h3 h4 h6)))
  go_region_with (first
    | (go_at_call 62; refine (len_any r w.heap.size t.data.toList K _ ?rd).mono ?_; (case rd => exact HRD.out.drewN 1); rw [hL.out]; rintro e_ w4 ⟨rfl, q4, rfl⟩)
    | (go_at_call 63; refine (word_err a s _ ?wd).mono ?_; (case wd => exact HEW.out.1); rintro e_ w5 ⟨rfl, rfl⟩))
  all_goals
    go_wp2
    exact bodyPost_ret (v := .tuple #[.int .i64 x, .string ⟨#[]⟩, .bool false, .int .i64 (K : Nat), .string s]) (by simp [results, Tryd.results40, go_sem]; try rfl) rfl ⟨x, K, s, rfl, HEW.out.2, below_drewN HB.out (1 + q4)⟩
end Go.Proofs.YtgdbeiadlgkedaaDoor

/- Plain, and a contract: the head of a row that was written is read. -/
set_option linter.unusedVariables false
set_option linter.unusedSimpArgs false
namespace Go.Proofs.YtgdbeiadlgkedaaDoor
open Go.RowKit
/-- The bytes of the nil fields as a string. -/
def rbits (l : List Bool) : ByteArray := ⟨((rbytes l).map Nat.toUInt8).toArray⟩
theorem pkU_bit (l : List Bool) (j b : Nat) (hb : b < 8) : ∀ i, (pkU l j i / 2 ^ b % 2 = 1 ↔ 8 * j + b < i ∧ isN l (8 * j + b) = true)
  | 0 => by rw [pkU]; simp
  | i + 1 => by
    have ih := pkU_bit l j b hb i
    rw [pkU]
    by_cases h : i / 8 = j ∧ isN l i = true
    · rw [if_pos h]
      obtain ⟨h1, h2⟩ := h
      have hlt := pkU_lt l j i (by omega) (by omega)
      rw [show i - 8 * j = i % 8 by omega] at hlt
      by_cases e : b = i % 8
      · have e2 : 8 * j + b = i := by omega
        rw [e2]
        subst e
        rw [Nat.add_div_right _ (Nat.pow_pos (by decide)), Nat.div_eq_of_lt hlt]
        simp [h2]
      · rcases Nat.lt_or_ge b (i % 8) with h3 | h3
        · have e3 : (2 : Nat) ^ (i % 8) = 2 ^ b * (2 * 2 ^ (i % 8 - b - 1)) := by
            rw [← Nat.pow_succ', ← Nat.pow_add]; congr 1; omega
          rw [e3, Nat.add_mul_div_left _ _ (Nat.pow_pos (by decide)), Nat.add_mul_mod_self_left, ih]
          constructor
          · rintro ⟨h4, h5⟩; exact ⟨by omega, h5⟩
          · rintro ⟨h4, h5⟩; exact ⟨by omega, h5⟩
        · have e3 : pkU l j i + 2 ^ (i % 8) < 2 ^ b := by
            have : 2 ^ (i % 8 + 1) ≤ 2 ^ b := Nat.pow_le_pow_right (by decide) (by omega)
            rw [Nat.pow_succ] at this
            omega
          rw [Nat.div_eq_of_lt e3]
          constructor
          · intro h4; simp at h4
          · rintro ⟨h4, h5⟩; omega
    · rw [if_neg h, ih]
      constructor
      · rintro ⟨h4, h5⟩; exact ⟨by omega, h5⟩
      · rintro ⟨h4, h5⟩
        refine ⟨?_, h5⟩
        rcases Nat.lt_or_ge (8 * j + b) i with h6 | h6
        · exact h6
        · exfalso
          have e : 8 * j + b = i := by omega
          exact h ⟨by omega, by rw [← e]; exact h5⟩
theorem rbits_get (l : List Bool) (q : Nat) : (rbits l).data.toList[q]? = if q < (rbytes l).length then some (pkU l q l.length).toUInt8 else none := by
  show ((rbytes l).map Nat.toUInt8)[q]? = _
  rw [List.getElem?_map]
  by_cases h : q < (rbytes l).length
  · rw [if_pos h]
    unfold rbytes at h ⊢
    rw [List.length_map, List.length_range] at h
    rw [List.getElem?_map, List.getElem?_range h]
    rfl
  · rw [if_neg h, List.getElem?_eq_none (by omega)]; rfl
theorem rbytes_lt (l : List Bool) (i : Nat) (hx : isN l i = true) : i / 8 < (rbytes l).length := by
  have hi : i < l.length := by
    rcases Nat.lt_or_ge i l.length with h | h
    · exact h
    · rw [isN_out h] at hx; cases hx
  have := lastB_ge l i hx l.length hi
  unfold rbytes
  rw [List.length_map, List.length_range]
  omega
theorem nilOf_bits (l : List Bool) (i : Nat) : nilOf (rbits l) i = isN l i := by
  unfold nilOf
  rw [rbits_get]
  by_cases h : i / 8 < (rbytes l).length
  · rw [if_pos h]
    simp only
    rw [u8_toNat (pkU_256 l _ _)]
    have hb := pkU_bit l (i / 8) (i % 8) (by omega) l.length
    have e : 8 * (i / 8) + i % 8 = i := by omega
    rw [e] at hb
    rw [Bool.eq_iff_iff, decide_eq_true_iff, hb]
    constructor
    · exact fun h => h.2
    · intro hx
      refine ⟨?_, hx⟩
      rcases Nat.lt_or_ge i l.length with h | h
      · exact h
      · rw [isN_out h] at hx; cases hx
  · rw [if_neg h]
    simp only
    cases hx : isN l i with
    | false => rfl
    | true => exact absurd (rbytes_lt l i hx) h
/-- Some field of those ahead is nil. -/
def anyN (l : List Bool) (i : Nat) : Bool := decide (0 ≤ lastB l i)
theorem anyN_zero (l : List Bool) : anyN l 0 = false := by unfold anyN lastB; rfl
theorem anyN_succ (l : List Bool) (i : Nat) : anyN l (i + 1) = (anyN l i || isN l i) := by
  unfold anyN
  rw [lastB]
  cases hx : isN l i with
  | true => simp; omega
  | false => simp
theorem anyN_end (l : List Bool) (n : Nat) (hn : l.length ≤ n) : anyN l n = decide ((rbytes l).length ≠ 0) := by
  unfold anyN rbytes
  rw [lastB_end l n hn, List.length_map, List.length_range]
  apply decide_eq_decide.2
  omega
theorem rowOf_any (B : Nat) (pe pl : Addr) (n : Nat) (l : List Bool) (rest : ByteArray) (w : World) (hn : n ≤ 10000) (hl : l.length ≤ 200) (hln : l.length ≤ n) (hr : rest.size ≤ 50) (he : Env B pe pl w) (hB : B ≤ w.heap.size) :
    Calls Tryd.prog 40 #[.string (⟨(rhead n l).toArray⟩ ++ rest)] w fun e w' => e = .returned (.tuple #[.int .i64 n, .string (rbits l), .bool (anyN l n), .int .i64 ((rhead n l).length : Nat), .string ⟨#[]⟩]) ∧ Below w.heap.size w w' := by
  have h26 := rbytes_26 l hl
  have h64 := rhead_len n l hn hl
  have hrl : rest.data.toList.length = rest.size := by rw [Array.length_toList]; rfl
  generalize hs : (⟨(rhead n l).toArray⟩ ++ rest : ByteArray) = s
  have hd : s.data.toList = Lib.uvarint n ++ (Lib.uvarint (rbytes l).length ++ ((rbytes l).map Nat.toUInt8 ++ rest.data.toList)) := by
    rw [← hs, data_append]
    show rhead n l ++ _ = _
    unfold rhead
    rw [List.append_assoc, List.append_assoc]
  have hsz : s.size ≤ 400 := by
    have e : s.size = s.data.toList.length := by rw [Array.length_toList]; rfl
    have e2 : s.data.toList.length = (rhead n l).length + rest.data.toList.length := by rw [← hs, data_append, List.length_append]
    omega
  have h1 : vrd 0 0 s.data.toList = some (n, (Lib.uvarint n).length) := by rw [hd]; exact vrd_uv _ (by omega)
  have h2 : vrd 0 0 (s.data.toList.drop (Lib.uvarint n).length) = some ((rbytes l).length, (Lib.uvarint (rbytes l).length).length) := by
    rw [hd, List.drop_left]; exact vrd_uv _ (by omega)
  have hd2 : s.data.toList.drop ((Lib.uvarint n).length + (Lib.uvarint (rbytes l).length).length) = (rbytes l).map Nat.toUInt8 ++ rest.data.toList := by
    rw [hd, ← List.drop_drop, List.drop_left, List.drop_left]
  have hlen : (rhead n l).length = (Lib.uvarint n).length + (Lib.uvarint (rbytes l).length).length + (rbytes l).length := by
    unfold rhead; rw [List.length_append, List.length_append, List.length_map]; omega
  have hlb := lastB_bd l l.length
  have hbl : (rbytes l).length ≤ n := by
    unfold rbytes; rw [List.length_map, List.length_range]; omega
  rw [anyN_end l n hln]
  by_cases hz : (rbytes l).length = 0
  · have e0 : rbits l = ⟨#[]⟩ := by unfold rbits; rw [List.eq_nil_of_length_eq_zero hz]; rfl
    rw [e0, hz, hlen, hz, Nat.add_zero]
    rw [hz] at h2
    have := rhI_E0 B pe pl s w hsz he hB n ((Lib.uvarint n).length + (Lib.uvarint 0).length) (fun r w1 a1 a2 a3 a4 => rrh_E0 B pe pl r w.heap.size _ w1 a1 a2 a3 a4 n _ _ h1 h2 (by omega))
    simpa using this
  · have hbs : ((s.data.toList.drop ((Lib.uvarint n).length + (Lib.uvarint (rbytes l).length).length)).take (rbytes l).length) = (rbytes l).map Nat.toUInt8 := by
      rw [hd2, List.take_left' (by rw [List.length_map])]
    have hle : (Lib.uvarint n).length + (Lib.uvarint (rbytes l).length).length + (rbytes l).length ≤ s.data.toList.length := by
      rw [hd]; simp only [List.length_append, List.length_map]; omega
    have := rhI_E1 B pe pl s w hsz he hB n (rbytes l).length ((Lib.uvarint n).length + (Lib.uvarint (rbytes l).length).length + (rbytes l).length) ((rbytes l).map Nat.toUInt8) (by rw [List.length_map]) (fun r w1 a1 a2 a3 a4 => by
      have := rrh_E1 B pe pl r w.heap.size _ w1 a1 a2 a3 a4 n _ _ _ h1 h2 (by omega) (by omega) (by omega) hz hle
      rw [hbs] at this
      exact this)
    rw [hlen, decide_eq_true hz]
    exact this
end Go.Proofs.YtgdbeiadlgkedaaDoor

/- The law of rows' headers that are written and read back. -/
set_option linter.unusedVariables false
set_option linter.unusedSimpArgs false
namespace Go.Proofs.YtgdbeiadlgkedaaDoor
open Go.RowKit PFnRowHeader Go.Proofs.YtgdbeiadlgkedaaDoorW.PrintWords Go.Proofs.YtgdbeiadlgkedaaDoorW.PrintLast Go.Proofs.YtgdbeiadlgkedaaDoorW.PrintMore
theorem rb_next {gk i n : Nat} (hk : gk + i = n) (hlt : i < n) : gk - 1 < gk ∧ gk - 1 + (i + 1) = n := ⟨by omega, by omega⟩
theorem add_str (s t : ByteArray) (h1 : s.size ≤ 64) (h2 : t.size ≤ 50) : ∀ W : World, (Op.stringOp .add s t).run Tryd.prog W = .ok (.string (s ++ t)) W := by
  intro W
  have : s.size + t.size ≤ maxLen := by unfold maxLen; omega
  simp [Op.stringOp]
  omega
set_option maxHeartbeats 8000000 in
set_option maxRecDepth 100000 in
theorem rowBack_row (pe pl : Addr) (n : Int) (A : Option Addr) (cA : Nat) (l : List Bool) (rest : ByteArray) (w : World) (he : Env w.heap.size pe pl w) (hC : Kd.C Kd.bool w A l.length l) (hc : l.length ≤ cA) :
    Calls Tryd.prog 19 #[.int .i64 n, .slice A l.length cA, .string rest] w fun e w' => e = .returned (.bool true) ∧ Below w.heap.size w w' := by
  have HE := Lib.hid he
  by_cases h1 : 2147483647 < l.length
  · have hc1 : 2147483647 < (l.length : Int) := by omega
    clear he hC hc h1
    go_enter Tryd.func19, Tryd.ntmps19
    go_wp2
    go_ret
    exact ⟨rfl, Below.refl _ w⟩
  by_cases h1b : 2147483647 < rest.size
  · have hc1 : ¬ 2147483647 < (l.length : Int) := by omega
    have hc1b : 2147483647 < (rest.size : Int) := by omega
    clear he hC hc h1 h1b
    go_enter Tryd.func19, Tryd.ntmps19
    go_wp2
    go_ret
    exact ⟨rfl, Below.refl _ w⟩
  have hc1 : ¬ 2147483647 < (l.length : Int) := by omega
  have hc1b : ¬ 2147483647 < (rest.size : Int) := by omega
  by_cases h2 : 0 ≤ n ∧ n ≤ 10000 ∧ (l.length : Int) ≤ 200 ∧ (l.length : Int) ≤ n
  · have HF := Lib.hid (laws_codRowFew.calls n A cA l true w hC hc (by rw [few_some, decide_eq_true h2]))
    obtain ⟨k, rfl⟩ := Int.eq_ofNat_of_zero_le h2.1
    have HK := Lib.hid (show k ≤ 10000 ∧ l.length ≤ 200 ∧ l.length ≤ k by omega)
    by_cases h3 : 50 < rest.size
    · have hc3 : 50 < (rest.size : Int) := by omega
      clear he hC hc h1 h1b h2 h3
      go_enter Tryd.func19, Tryd.ntmps19
      go_wp2_with (first
        | (go_at_call 43; go_loud (refine HF.out.mono ?_; rintro e_ w1 ⟨rfl, hd⟩; have HB1 := Lib.hid hd.below; clear hd))
        | (go_at_call 21; refine (awake_any w.heap.size pe pl w1 (HE.out.below HB1.out) HB1.out.size).mono ?_; rintro e_ w4 ⟨rfl, hb⟩; have HB4 := Lib.hid (below_then HB1.out HB1.out.size hb); clear hb))
      go_ret
      exact ⟨rfl, HB4.out⟩
    · have hc3 : ¬ 50 < (rest.size : Int) := by omega
      have HC := Lib.hid hC
      have HR := Lib.hid (show rest.size ≤ 50 by omega)
      have HT := Lib.hid (rowOf_any w.heap.size pe pl k l rest)
      have HA := Lib.hid (implRow_any (n := k) (l := l))
      have HSZ := Lib.hid (rhead_len k l HK.out.1 HK.out.2.1)
      obtain ⟨r, hr⟩ : ∃ r, Hid ((⟨(rhead k l).toArray⟩ : ByteArray) = r) := ⟨_, Lib.hid rfl⟩
      obtain ⟨hb, hhb⟩ : ∃ hb, Hid (anyN l k = hb) := ⟨_, Lib.hid rfl⟩
      have rsz : (r.size : Int) = ((rhead k l).length : Int) := by rw [← hr.out]; simp [ByteArray.size]
      have hadd := add_str r rest (by have := HSZ.out; omega) HR.out
      rw [hr.out, hhb.out, ← rsz] at HT
      have q1 : (l.length : Int) ≤ 200 := by omega
      have q2 : (k : Int) ≤ 10000 := by omega
      have HRS := Lib.hid rsz
      clear he hC hc h1 h1b h2 h3 rsz
      go_enter Tryd.func19, Tryd.ntmps19
      go_wp2_with (first
        | (go_at_call 43; go_loud (refine HF.out.mono ?_; rintro e_ w1 ⟨rfl, hd⟩; have HB1 := Lib.hid hd.below; have HC1 := Lib.hid (Kd.C_below HC.out hd.below); clear hd))
        | ((with_reducible refine gate_builtin (b := .append) (xs := #[.const (.slice none 0 0), .tmp 37]) rfl ?_); at_builtin; refine R_append_bools (w0 := w) (W := w1) w.heap.size rfl (.const (.slice none 0 0)) (.tmp 37) 75 rfl Tryd.underlying75 info4 _ [] l A l.length cA rfl rfl (Kd.R_nil _ _ _ _ _) HC1.out HB1.out HB1.out.size ?hl ?_; (case hl => have := HK.out; simp; omega); intro A2 c2 w2 hR2 hB2 hg2; rw [List.nil_append] at hR2 ⊢; have HC2 := Lib.hid (Kd.R_reads' hR2).2.2; have HB2 := Lib.hid hB2; have HG2 := Lib.hid (Kd.C_below HC1.out (below_none hg2)); clear hR2 hB2 hg2)
        | (go_at_call 44; go_loud (refine (implRow_any A2 c2 k l w2 HK.out.1 HK.out.2.1 HK.out.2.2 HC2.out).mono ?_; rintro e_ w3 ⟨rfl, hb_⟩; rw [hr.out]; have HB3 := Lib.hid (below_then HB2.out HB2.out.size hb_); have HC3 := Lib.hid (Kd.C_below HG2.out hb_); clear hb_))
        | (go_at_call 40; go_loud (refine (HT.out w3 HK.out.1 HK.out.2.1 HK.out.2.2 HR.out (HE.out.below HB3.out) HB3.out.size).mono ?_; rintro e_ w4 ⟨rfl, hb_⟩; have HB4 := Lib.hid (below_then HB3.out HB3.out.size hb_); have HC4 := Lib.hid (Kd.C_below HC3.out hb_); clear hb_)))
      go_loopg [14, 68] k (fun kq v14 v68 wr => ∃ (i : Nat) (s : Bool), kq + i = k ∧ v14 = .bool s ∧ v68 = .int .i64 (i : Int) ∧ Hid (s = anyN l i) ∧ Hid (Kd.C Kd.bool wr A l.length l) ∧ Hid (Below w.heap.size w wr))
      case atStart => exact ⟨0, false, rfl, rfl, rfl, Lib.hid (anyN_zero l).symm, HC4, HB4⟩
      case round =>
        clear HF HT HA hadd
        obtain ⟨i, s, hki, rfl, rfl, HS, HCr, HBr⟩ := hrel
        by_cases hlt : i < k
        · have HX := Lib.hid (rb_next hki hlt)
          have HI := Lib.hid (show i < 9223372036854775808 by have := HK.out.1; omega)
          have HN := Lib.hid (nilOf_bits l i)
          have HAN := Lib.hid (anyN_succ l i)
          rw [← HS.out] at HAN
          clear hki
          by_cases hx : isN l i = true
          · rw [hx, Bool.or_true] at HAN
            have hil : i < l.length := by
              rcases Nat.lt_or_ge i l.length with h | h
              · exact h
              · rw [isN_out h] at hx; cases hx
            obtain ⟨ad, rfl, y0⟩ := atB HCr.out i hil
            rw [hx] at y0 HN
            cases s
            all_goals
              go_wp2_with (go_at_call 35; go_loud (refine (implNil_any (rbits l) i _ HI.out).mono ?_; rintro e_ w5 ⟨rfl, hb_⟩; rw [HN.out]; have HB5 := Lib.hid (below_then HBr.out HBr.out.size hb_); have HC5 := Lib.hid (Kd.C_below HCr.out hb_); clear hb_))
              go_roundg (gk - 1)
              case measure => exact HX.out.1
              case rel => exact ⟨i + 1, true, HX.out.2, rfl, by first | rfl | go_num, Lib.hid HAN.out.symm, HC5, HB5⟩
          · rw [Bool.not_eq_true] at hx
            rw [hx, Bool.or_false] at HAN
            rw [hx] at HN
            by_cases hil : i < l.length
            · obtain ⟨ad, rfl, y0⟩ := atB HCr.out i hil
              rw [hx] at y0
              cases s
              all_goals
                go_wp2_with (go_at_call 35; go_loud (refine (implNil_any (rbits l) i _ HI.out).mono ?_; rintro e_ w5 ⟨rfl, hb_⟩; rw [HN.out]; have HB5 := Lib.hid (below_then HBr.out HBr.out.size hb_); have HC5 := Lib.hid (Kd.C_below HCr.out hb_); clear hb_))
                go_roundg (gk - 1)
                case measure => exact HX.out.1
                case rel => exact ⟨i + 1, _, HX.out.2, rfl, by first | rfl | go_num, Lib.hid HAN.out.symm, HC5, HB5⟩
            · cases s
              all_goals
                go_wp2_with (go_at_call 35; go_loud (refine (implNil_any (rbits l) i _ HI.out).mono ?_; rintro e_ w5 ⟨rfl, hb_⟩; rw [HN.out]; have HB5 := Lib.hid (below_then HBr.out HBr.out.size hb_); have HC5 := Lib.hid (Kd.C_below HCr.out hb_); clear hb_))
                go_roundg (gk - 1)
                case measure => exact HX.out.1
                case rel => exact ⟨i + 1, _, HX.out.2, rfl, by first | rfl | go_num, Lib.hid HAN.out.symm, HC5, HB5⟩
        · have hin : k = i := row_in hki hlt
          subst hin
          obtain rfl : s = hb := HS.out.trans hhb.out
          clear hki
          go_wp2_with (go_at_call 21; refine (awake_any w.heap.size pe pl _ (HE.out.below HBr.out) HBr.out.size).mono ?_; rintro e_ w5 ⟨rfl, hb_⟩; have HB5 := Lib.hid (below_then HBr.out HBr.out.size hb_); clear hb_)
          go_ret
          exact ⟨rfl, HB5.out⟩
  · have HF := Lib.hid (laws_codRowFew.calls n A cA l false w hC hc (by rw [few_some, decide_eq_false h2]))
    clear he hC hc h1 h1b h2
    go_enter Tryd.func19, Tryd.ntmps19
    go_wp2_with (first
      | (go_at_call 43; go_loud (refine HF.out.mono ?_; rintro e_ w1 ⟨rfl, hd⟩; have HB1 := Lib.hid hd.below; clear hd))
      | (go_at_call 21; refine (awake_any w.heap.size pe pl w1 (HE.out.below HB1.out) HB1.out.size).mono ?_; rintro e_ w4 ⟨rfl, hb⟩; have HB4 := Lib.hid (below_then HB1.out HB1.out.size hb); clear hb))
    go_ret
    exact ⟨rfl, HB4.out⟩
end Go.Proofs.YtgdbeiadlgkedaaDoor

/- Opening an argument that is a slice: its elements as a list, read by a kind. -/
set_option linter.unusedVariables false
set_option linter.unusedSimpArgs false
namespace Go.Proofs.YtgdbeiadlgkedaaDoor
open Go.RowKit Go.Deep Go.Proofs.YtgdbeiadlgkedaaDoorW.PrintWords

theorem choose_list {α : Type} {n : Nat} {p : Nat → α → Prop} (h : ∀ i, i < n → ∃ x, p i x) : ∃ xs : List α, xs.length = n ∧ ∀ i x, xs[i]? = some x → p i x := by
  induction n with
  | zero => exact ⟨[], rfl, by simp⟩
  | succ n ih =>
    obtain ⟨xs, hl, hx⟩ := ih (fun i hi => h i (by omega))
    obtain ⟨y, hy⟩ := h n (by omega)
    refine ⟨xs ++ [y], by simp [hl], fun i x hi => ?_⟩
    by_cases hlt : i < xs.length
    · rw [List.getElem?_append_left hlt] at hi; exact hx i x hi
    · rw [List.getElem?_append_right (by omega)] at hi
      have e : i = n := by
        have := (List.getElem?_eq_some_iff.1 hi).1
        simp at this; omega
      subst e
      simp [hl] at hi
      exact hi ▸ hy
theorem open_kd {α H : Type} {enc : TypeId × Value → H} {P : Program} {W : World} {sp : Nat → Bool} {held : Bool} (d : Kd α) {Good : α → Prop} {t e : TypeId} (ht : P.underlying t = some (.slice e)) (hce : P.cellsOf e = d.sz)
    (hel : ∀ n cs x, cs.length = d.sz → DataW.trod enc P W 0 sp held n e cs = some x → ∃ a : α, d.K W a cs ∧ Good a)
    {A0 : Option Addr} {n0 c0 : Nat} {ds : DataW H} {ps : List MemPlace} (h : DataW.Trod enc P W 0 sp held t (.slice A0 n0 c0) ds ps) :
    ∃ xs : List α, n0 = xs.length ∧ xs.length ≤ c0 ∧ d.C W A0 xs.length xs ∧ ∀ x ∈ xs, Good x := by
  obtain ⟨fuel, hf⟩ := h
  rcases open_slice ht hf with ⟨hcs, _⟩ | ⟨a, len, cap, m, n, D, Pl, hcs, hb, hl, hm, hmm, hx, hall⟩
  · simp [Value.cells] at hcs
    obtain ⟨rfl, rfl, rfl⟩ := hcs
    exact ⟨[], rfl, Nat.le_refl _, Kd.C_nil d W, by simp⟩
  · simp [Value.cells] at hcs
    obtain ⟨rfl, rfl, rfl⟩ := hcs
    have hlm : n0 ≤ m := by rw [hmm]; split <;> omega
    have each : ∀ i, i < n0 → ∃ x : α, Good x ∧ ∃ c, c.length = d.sz ∧ d.K W x c ∧ ∀ j u, c[j]? = some u → W.cell? (a.add (i * d.sz + j)) = some u := by
      intro i hi
      obtain ⟨cs', h1, h2⟩ := hall i (by omega)
      rw [hce] at h1
      obtain ⟨_, hlen, hcell⟩ := World.cells?_some h1
      obtain ⟨x, hK, hG⟩ := hel _ _ _ hlen h2
      refine ⟨x, hG, cs', hlen, hK, fun j u hu => ?_⟩
      have hj : j < d.sz := by rw [← hlen]; exact (List.getElem?_eq_some_iff.1 hu).1
      rw [← Deep.add_add, hcell j hj]; exact hu
    obtain ⟨xs, hxl, hxs⟩ := choose_list each
    refine ⟨xs, hxl.symm, by omega, ⟨rfl, ?_, fun _ => ⟨a, rfl, fun j p hj => (hxs j p hj).2⟩⟩, fun x hx => ?_⟩
    · have : maxLen ≤ 9223372036854775807 := by decide
      omega
    · obtain ⟨i, hi⟩ := List.getElem?_of_mem hx
      exact (hxs i x hi).1
theorem open_bl {H : Type} {enc : TypeId × Value → H} {W : World} {sp : Nat → Bool} {held : Bool} {A0 : Option Addr} {n0 c0 : Nat} {ds : DataW H} {ps : List MemPlace} (h : DataW.Trod enc Tryd.prog W 0 sp held 75 (.slice A0 n0 c0) ds ps) :
    ∃ xs : List Bool, n0 = xs.length ∧ xs.length ≤ c0 ∧ Kd.C Kd.bool W A0 xs.length xs := by
  obtain ⟨xs, e, hc, hC, _⟩ := open_kd (Good := fun _ => True) Kd.bool Tryd.underlying75 (by kernel_rfl) (fun n cs x hl hx => by
    obtain ⟨u0, e0, _⟩ := DataW.trod_bool Tryd.underlying4 hx
    exact ⟨u0, e0, trivial⟩) h
  exact ⟨xs, e, hc, hC⟩
end Go.Proofs.YtgdbeiadlgkedaaDoor
