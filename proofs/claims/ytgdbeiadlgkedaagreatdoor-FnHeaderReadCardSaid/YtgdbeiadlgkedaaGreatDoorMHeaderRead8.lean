/- Contracts and plain laws, several texts in one. -/
import Derived.Test.YtgdbeiadlgkedaaGreatDoorMHeaderRead6
import Derived.Test.YtgdbeiadlgkedaaGreatDoorMHeaderRead7
import Derived.Deep.RegionHeld3
set_option linter.unusedVariables false
set_option linter.unusedSimpArgs false
namespace Go.Proofs.YtgdbeiadlgkedaaGreatDoor
open Go.RowKit Go.Proofs.YtgdbeiadlgkedaaGreatDoorW.PrintWords Go.Proofs.YtgdbeiadlgkedaaGreatDoorW.PrintLast Go.Proofs.YtgdbeiadlgkedaaGreatDoorW.PrintMore
theorem drop_strD (s : ByteArray) (k : Nat) : (s.extract k s.size).data.toList = s.data.toList.drop k := by
  rw [Lib.extract_data, List.take_of_length_le (by rw [List.length_drop, Array.length_toList]; exact Nat.le_refl _)]
theorem i64n {m : Nat} (h : m < 1000000) : wrap64 (m : Int) = (m : Int) ∧ IntKind.i64.wrap (m : Int) = (m : Int) := ⟨IntWalk.wrap64_in _ (by omega), IntWalk.i64_in _ (by omega)⟩
theorem bne_mod {n : Nat} : (((n % 2 : Nat) : Int) != 0) = decide (n % 2 = 1) := by rw [Bool.eq_iff_iff]; simp; omega
theorem bne_mod2 {n : Nat} : (((n / 2 % 2 * 2 : Nat) : Int) != 0) = decide (n / 2 % 2 = 1) := by rw [Bool.eq_iff_iff]; simp; omega
theorem str_ne {s : ByteArray} {c : UInt8} {r : List UInt8} (h : s.data.toList = c :: r) : s.toList.isEmpty = false ∧ ¬ s.toList = [] ∧ 0 < s.size ∧ ¬ s = ByteArray.empty := by
  have e : s.toList = c :: r := by rw [ByteArray.toList_eq]; exact h
  have hsz : 0 < s.size := by have := congrArg List.length h; rw [Array.length_toList] at this; show 0 < s.data.size; rw [this]; simp
  exact ⟨by rw [e]; rfl, by rw [e]; exact List.cons_ne_nil _ _, hsz, by intro e; rw [e] at hsz; exact absurd hsz (by decide)⟩
theorem q16 {n m : Nat} (h : n / 16 = m) : (n : Int) / 16 = (m : Int) := by omega
theorem and3i {n m : Nat} (hn : n < 256) (hm : n / 4 % 4 = m) : bits .and .u8 ((n : Int) / 4) 3 = (m : Int) := by
  have := and3 (n / 4) (by omega)
  rw [← hm, ← this]; congr 1
def cpr.T3 : Bool × List (List Nat × List Nat) := (true, [([], []), ([0], [0]), ([1], [1]), ([2], [2]), ([3], [3]), ([], []), ([5], [5]), ([6], [6]), ([7], [7]), ([], []), ([9], [9]), ([10], [10]), ([11], [11]), ([4, 8, 12], [4, 8, 12]), ([], []), ([14, 13, 0, 1, 2, 3, 4, 5, 6, 7, 8, 9, 10, 11, 12, 13, 14], [13, 14])])
def cpr.B3 : List Nat := [0, 1, 3, 7, 15, 0, 32, 96, 224, 0, 512, 1536, 3584, 8191, 0, 32767]
theorem cpr.tab3 : rtab .any (opsOf Tryz.f59 3) = cpr.T3 := by kernel_rfl
theorem cpr.bits3 : waitsOk cpr.T3.2 cpr.B3 = true := by kernel_rfl
set_option maxHeartbeats 4000000 in
set_option maxRecDepth 100000 in
theorem pr_0 (s : ByteArray) (w : World) (c : UInt8) (r : List UInt8) (h : s.data.toList = c :: r) (hf : c.toNat / 16 = 0) :
    Calls Tryz.prog 59 #[.string s] w fun e w' => e = .returned (.tuple #[.agg #[(.int .i64 (c.toNat / 4 % 4 : Nat)), (.bool (c.toNat % 2 = 1)), (.bool (c.toNat / 2 % 2 = 1)), (.int .i64 0), (.int .i64 0)], .int .i64 1, .int .i64 0]) ∧ Below w.heap.size w w' := by
  have hg := get_at s 0 c r h
  obtain ⟨z1, z2, hsz, z3⟩ := str_ne h
  have hsz2 : (0 : Int) < (s.size : Int) := by omega
  have hsz3 : 1 ≤ s.size := hsz
  have hsz4 : (1 : Int) ≤ (s.size : Int) := by omega
  obtain ⟨n, hn⟩ : ∃ n, Hid (c.toNat = n) := ⟨_, Lib.hid rfl⟩
  have hn256 : n < 256 := by have := c.toNat_lt; have := hn.out; omega
  have hcn : c.toNat = n := hn.out
  rw [hcn] at hf ⊢
  obtain ⟨m, hm⟩ : ∃ m, Hid (n / 4 % 4 = m) := ⟨_, Lib.hid rfl⟩
  have hm4 : m < 1000000 := by have := hm.out; omega
  obtain ⟨f, hf'⟩ : ∃ f, Hid (decide (n % 2 = 1) = f) := ⟨_, Lib.hid rfl⟩
  obtain ⟨la, hla⟩ : ∃ la, Hid (decide (n / 2 % 2 = 1) = la) := ⟨_, Lib.hid rfl⟩
  rw [hm.out, hf'.out, hla.out]
  have q1 := and3i hn256 hm.out
  have q2 : bits .and .u8 (n : Int) 1 = ((n % 2 : Nat) : Int) := and1 n hn256
  have q3 : bits .and .u8 (n : Int) 2 = ((n / 2 % 2 * 2 : Nat) : Int) := and2 n hn256
  have q6 := (i64n hm4).1
  have q7 := (i64n hm4).2
  have q8 : (((n % 2 : Nat) : Int) != 0) = f := bne_mod.trans hf'.out
  have q9 : (((n / 2 % 2 * 2 : Nat) : Int) != 0) = la := bne_mod2.trans hla.out
  obtain ⟨b1, hb1⟩ : ∃ b, b = n % 2 := ⟨_, rfl⟩
  obtain ⟨b2, hb2⟩ : ∃ b, b = n / 2 % 2 * 2 := ⟨_, rfl⟩
  rw [← hb1] at q2 q8
  rw [← hb2] at q3 q9
  clear hb1 hb2
  have q5 : (n : Int) / 16 = 0 := q16 hf
  have hz := blk_drew (heap_alloc_new w (.cells #[.int .i64 0, .bool false, .bool false, .int .i64 0, .int .i64 0] 50))
  have HB := Aside0.mk (below_drew (below_alloc (Below.refl w.heap.size w) (.cells #[.int .i64 0, .bool false, .bool false, .int .i64 0, .int .i64 0] 50)))
  clear h hf hn256 hm4
  go_enter Tryz.func59, Tryz.ntmps59
  go_wp2
  refine start_ (n := 16) (S := fun w' => True) (ds := [15]) #[false, false, false, false, false, false, false, false, false, false, false, false, false, false, false, false] (by kernel_rfl) rfl rfl trivial (fun hHeld => ?_)
  refine with_tabW cpr.tab3 cpr.bits3 (fun HT_ HW_ => ?_)
  generalize (w.alloc (.cells #[.int .i64 0, .bool false, .bool false, .int .i64 0, .int .i64 0] 50)).drew = W at *
  refine pure_ (i := 0) (N := some 14) (v := ?_) (a' := ?_) #[true, false, false, false, false, false, false, false, false, false, false, false, false, false, false, false] rfl rfl (any_of HT_.out (by kernel_rfl)) (fun _ _ _ h => h) (Or.inl ⟨by rfl, ?_⟩) ?_ ?_
  rotate_left
  · intro w'
    go_simp
    with_reducible rfl
  rotate_left
  · simp only [Act.put, List.setIfInBounds_toArray, List.set_cons_zero, List.set_cons_succ, i64_w, i32_w]
    rfl
  refine pure_ (i := 5) (N := some 19) (v := ?_) (a' := ?_) #[true, false, false, false, false, true, false, false, false, false, false, false, false, false, false, false] rfl rfl (any_of HT_.out (by kernel_rfl)) (fun _ _ _ h => h) (Or.inl ⟨by rfl, ?_⟩) ?_ ?_
  rotate_left
  · intro w'
    go_simp
    with_reducible rfl
  rotate_left
  · simp only [Act.put, List.setIfInBounds_toArray, List.set_cons_zero, List.set_cons_succ, i64_w, i32_w]
    rfl
  refine pure_ (i := 9) (N := some 23) (v := ?_) (a' := ?_) #[true, false, false, false, false, true, false, false, false, true, false, false, false, false, false, false] rfl rfl (any_of HT_.out (by kernel_rfl)) (fun _ _ _ h => h) (Or.inl ⟨by rfl, ?_⟩) ?_ ?_
  rotate_left
  · intro w'
    go_simp
    with_reducible rfl
  rotate_left
  · simp only [Act.put, List.setIfInBounds_toArray, List.set_cons_zero, List.set_cons_succ, i64_w, i32_w]
    rfl
  refine take_ (i := 1) (N := some 15) (v := ?_) (a' := ?_) #[true, true, false, false, false, true, false, false, false, true, false, false, false, false, false, false] rfl rfl (take_ofW HT_.out HW_.out (by kernel_rfl)) (fun _ _ _ h => h) (Or.inl ⟨by rfl, ?_⟩) hHeld ?_ ?_
  rotate_left
  · rintro w' s0
    go_simp
    with_reducible rfl
  rotate_left
  · simp only [Act.put, List.setIfInBounds_toArray, List.set_cons_zero, List.set_cons_succ, i64_w, i32_w]
    rfl
  refine pure_ (i := 2) (N := some 16) (v := ?_) (a' := ?_) #[true, true, true, false, false, true, false, false, false, true, false, false, false, false, false, false] rfl rfl (any_of HT_.out (by kernel_rfl)) (fun _ _ _ h => h) (Or.inl ⟨by rfl, ?_⟩) ?_ ?_
  rotate_left
  · intro w'
    go_simp
    with_reducible rfl
  rotate_left
  · simp only [Act.put, List.setIfInBounds_toArray, List.set_cons_zero, List.set_cons_succ, i64_w, i32_w]
    rfl
  refine pure_ (i := 3) (N := some 17) (v := ?_) (a' := ?_) #[true, true, true, true, false, true, false, false, false, true, false, false, false, false, false, false] rfl rfl (any_of HT_.out (by kernel_rfl)) (fun _ _ _ h => h) (Or.inl ⟨by rfl, ?_⟩) ?_ ?_
  rotate_left
  · intro w'
    go_simp
    with_reducible rfl
  rotate_left
  · simp only [Act.put, List.setIfInBounds_toArray, List.set_cons_zero, List.set_cons_succ, i64_w, i32_w]
    rfl
  refine pure_ (i := 4) (N := some 18) (v := ?_) (a' := ?_) #[true, true, true, true, true, true, false, false, false, true, false, false, false, false, false, false] rfl rfl (any_of HT_.out (by kernel_rfl)) (fun _ _ _ h => h) (Or.inl ⟨by rfl, ?_⟩) ?_ ?_
  rotate_left
  · intro w'
    go_simp
    with_reducible rfl
  rotate_left
  · simp only [Act.put, List.setIfInBounds_toArray, List.set_cons_zero, List.set_cons_succ, i64_w, i32_w]
    rfl
  refine take_ (i := 6) (N := some 20) (v := ?_) (a' := ?_) #[true, true, true, true, true, true, true, false, false, true, false, false, false, false, false, false] rfl rfl (take_ofW HT_.out HW_.out (by kernel_rfl)) (fun _ _ _ h => h) (Or.inl ⟨by rfl, ?_⟩) hHeld ?_ ?_
  rotate_left
  · rintro w' s0
    go_simp
    with_reducible rfl
  rotate_left
  · simp only [Act.put, List.setIfInBounds_toArray, List.set_cons_zero, List.set_cons_succ, i64_w, i32_w]
    rfl
  refine pure_ (i := 7) (N := some 21) (v := ?_) (a' := ?_) #[true, true, true, true, true, true, true, true, false, true, false, false, false, false, false, false] rfl rfl (any_of HT_.out (by kernel_rfl)) (fun _ _ _ h => h) (Or.inl ⟨by rfl, ?_⟩) ?_ ?_
  rotate_left
  · intro w'
    go_simp
    with_reducible rfl
  rotate_left
  · simp only [Act.put, List.setIfInBounds_toArray, List.set_cons_zero, List.set_cons_succ, i64_w, i32_w]
    rfl
  refine pure_ (i := 8) (N := some 22) (v := ?_) (a' := ?_) #[true, true, true, true, true, true, true, true, true, true, false, false, false, false, false, false] rfl rfl (any_of HT_.out (by kernel_rfl)) (fun _ _ _ h => h) (Or.inl ⟨by rfl, ?_⟩) ?_ ?_
  rotate_left
  · intro w'
    go_simp
    with_reducible rfl
  rotate_left
  · simp only [Act.put, List.setIfInBounds_toArray, List.set_cons_zero, List.set_cons_succ, i64_w, i32_w]
    rfl
  refine take_ (i := 10) (N := some 24) (v := ?_) (a' := ?_) #[true, true, true, true, true, true, true, true, true, true, true, false, false, false, false, false] rfl rfl (take_ofW HT_.out HW_.out (by kernel_rfl)) (fun _ _ _ h => h) (Or.inl ⟨by rfl, ?_⟩) hHeld ?_ ?_
  rotate_left
  · rintro w' s0
    go_simp
    with_reducible rfl
  rotate_left
  · simp only [Act.put, List.setIfInBounds_toArray, List.set_cons_zero, List.set_cons_succ, i64_w, i32_w]
    rfl
  refine pure_ (i := 11) (N := some 25) (v := ?_) (a' := ?_) #[true, true, true, true, true, true, true, true, true, true, true, true, false, false, false, false] rfl rfl (any_of HT_.out (by kernel_rfl)) (fun _ _ _ h => h) (Or.inl ⟨by rfl, ?_⟩) ?_ ?_
  rotate_left
  · intro w'
    go_simp
    with_reducible rfl
  rotate_left
  · simp only [Act.put, List.setIfInBounds_toArray, List.set_cons_zero, List.set_cons_succ, i64_w, i32_w]
    rfl
  refine pure_ (i := 12) (N := some 26) (v := ?_) (a' := ?_) #[true, true, true, true, true, true, true, true, true, true, true, true, true, false, false, false] rfl rfl (any_of HT_.out (by kernel_rfl)) (fun _ _ _ h => h) (Or.inl ⟨by rfl, ?_⟩) ?_ ?_
  rotate_left
  · intro w'
    go_simp
    with_reducible rfl
  rotate_left
  · simp only [Act.put, List.setIfInBounds_toArray, List.set_cons_zero, List.set_cons_succ, i64_w, i32_w]
    rfl
  refine pure_ (i := 13) (N := some 27) (v := ?_) (a' := ?_) #[true, true, true, true, true, true, true, true, true, true, true, true, true, true, false, false] rfl rfl (any_of HT_.out (by kernel_rfl)) (fun _ _ _ h => h) (Or.inl ⟨by rfl, ?_⟩) ?_ ?_
  rotate_left
  · intro w'
    go_simp
    with_reducible rfl
  rotate_left
  · simp only [Act.put, List.setIfInBounds_toArray, List.set_cons_zero, List.set_cons_succ, i64_w, i32_w]
    rfl
  refine one_ (i := 14) (N := some 5) #[true, true, true, true, true, true, true, true, true, true, true, true, true, true, true, false] rfl rfl (one_of HT_.out (by kernel_rfl)) (by decide) (fun K hK => ?_)
  refine event_step (v := .pointer (some ⟨W.heap.size, 0, none⟩)) (w1 := W.alloc (.cells #[.int .i64 0, .bool false, .bool false, .int .i64 0, .int .i64 0] 50)) (by rfl) (by first | (go_simp; done) | (go_simp; rfl)) ?_
  refine hK.out _ _ trivial (fun hHeld => ?_)
  clear hK K
  simp only [Act.put, List.setIfInBounds_toArray, List.set_cons_zero, List.set_cons_succ]
  refine last_ (i := 15) (N := none) #[true, true, true, true, true, true, true, true, true, true, true, true, true, true, true, true] rfl rfl (one_of HT_.out (by kernel_rfl)) (by decide) (fun K hK => ?_)
  refine skip_ (w1 := ?_) (by rfl) rfl ?_ ?_
  rotate_left
  · go_simp
    rfl
  refine hK.out _ _ ?_
  clear hK K
  refine done_ (done_of HT_.out (by kernel_rfl)) ?_
  have hlt : w.heap.size < W.heap.size := blk_lt hz
  obtain ⟨k0, k1, k2_, k3, k4⟩ := laid5 hz
  obtain ⟨o0, o1, o2, o3, o4⟩ := open5 hz
  have hlt2 : w.heap.size < (((((W.setCell ⟨w.heap.size, 0, none⟩ (.int .i64 m)).setCell ⟨w.heap.size, 1, none⟩ (.bool f)).setCell ⟨w.heap.size, 2, none⟩ (.bool la)).setCell ⟨w.heap.size, 3, none⟩ (.int .i64 0)).setCell ⟨w.heap.size, 4, none⟩ (.int .i64 0)).heap.size := by simpa [World.size_setCell] using hlt
  have HF := Lib.hid (show ((((((W.setCell ⟨w.heap.size, 0, none⟩ (.int .i64 m)).setCell ⟨w.heap.size, 1, none⟩ (.bool f)).setCell ⟨w.heap.size, 2, none⟩ (.bool la)).setCell ⟨w.heap.size, 3, none⟩ (.int .i64 0)).setCell ⟨w.heap.size, 4, none⟩ (.int .i64 0)).alloc (.cells #[.int .i64 m, .bool f, .bool la, .int .i64 0, .int .i64 0] 50)).heap[w.heap.size]? = some (.cells #[(.int .i64 m), (.bool f), (.bool la), (.int .i64 0), (.int .i64 0)] 50 (0, 0)) ∧ Below w.heap.size w ((((((W.setCell ⟨w.heap.size, 0, none⟩ (.int .i64 m)).setCell ⟨w.heap.size, 1, none⟩ (.bool f)).setCell ⟨w.heap.size, 2, none⟩ (.bool la)).setCell ⟨w.heap.size, 3, none⟩ (.int .i64 0)).setCell ⟨w.heap.size, 4, none⟩ (.int .i64 0)).alloc (.cells #[.int .i64 m, .bool f, .bool la, .int .i64 0, .int .i64 0] 50)) from ⟨(Below.heap_alloc _ _ w.heap.size hlt2).trans (set5 (W := W) hz (.int .i64 m) (.bool f) (.bool la) (.int .i64 0) (.int .i64 0)), below_alloc (HB.out.trans (set5_below (Nat.le_refl _) (.int .i64 m) (.bool f) (.bool la) (.int .i64 0) (.int .i64 0))) _⟩)
  clear hz hlt2
  go_wp2
  generalize ((((((W.setCell ⟨w.heap.size, 0, none⟩ (.int .i64 m)).setCell ⟨w.heap.size, 1, none⟩ (.bool f)).setCell ⟨w.heap.size, 2, none⟩ (.bool la)).setCell ⟨w.heap.size, 3, none⟩ (.int .i64 0)).setCell ⟨w.heap.size, 4, none⟩ (.int .i64 0)).alloc (.cells #[.int .i64 m, .bool f, .bool la, .int .i64 0, .int .i64 0] 50)) = X at HF ⊢
  obtain ⟨c0, c1, c2, c3, c4⟩ := laid5 HF.out.1
  exact bodyPost_ret (v := .tuple #[.agg #[(.int .i64 m), (.bool f), (.bool la), (.int .i64 0), (.int .i64 0)], .int .i64 1, .int .i64 0]) (by simp [results, Tryz.results59, go_sem, c0, c1, c2, c3, c4]; try rfl) rfl ⟨rfl, HF.out.2⟩
set_option maxHeartbeats 4000000 in
set_option maxRecDepth 100000 in
theorem pr_un (s : ByteArray) (w : World) (c : UInt8) (r : List UInt8) (h : s.data.toList = c :: r) (hf : 2 < c.toNat / 16) :
    Calls Tryz.prog 59 #[.string s] w fun e w' => e = .returned (.tuple #[.agg #[(.int .i64 0), (.bool false), (.bool false), (.int .i64 0), (.int .i64 0)], .int .i64 0, .int .i64 2]) ∧ Below w.heap.size w w' := by
  have hg := get_at s 0 c r h
  obtain ⟨z1, z2, hsz, z3⟩ := str_ne h
  have hsz2 : (0 : Int) < (s.size : Int) := by omega
  have hsz3 : 1 ≤ s.size := hsz
  have hsz4 : (1 : Int) ≤ (s.size : Int) := by omega
  obtain ⟨n, hn⟩ : ∃ n, Hid (c.toNat = n) := ⟨_, Lib.hid rfl⟩
  have hn256 : n < 256 := by have := c.toNat_lt; have := hn.out; omega
  have hcn : c.toNat = n := hn.out
  rw [hcn] at hf
  obtain ⟨m, hm⟩ : ∃ m, Hid (n / 4 % 4 = m) := ⟨_, Lib.hid rfl⟩
  have hm4 : m < 1000000 := by have := hm.out; omega
  obtain ⟨f, hf'⟩ : ∃ f, Hid (decide (n % 2 = 1) = f) := ⟨_, Lib.hid rfl⟩
  obtain ⟨la, hla⟩ : ∃ la, Hid (decide (n / 2 % 2 = 1) = la) := ⟨_, Lib.hid rfl⟩
  have q1 := and3i hn256 hm.out
  have q2 : bits .and .u8 (n : Int) 1 = ((n % 2 : Nat) : Int) := and1 n hn256
  have q3 : bits .and .u8 (n : Int) 2 = ((n / 2 % 2 * 2 : Nat) : Int) := and2 n hn256
  have q6 := (i64n hm4).1
  have q7 := (i64n hm4).2
  have q8 : (((n % 2 : Nat) : Int) != 0) = f := bne_mod.trans hf'.out
  have q9 : (((n / 2 % 2 * 2 : Nat) : Int) != 0) = la := bne_mod2.trans hla.out
  obtain ⟨b1, hb1⟩ : ∃ b, b = n % 2 := ⟨_, rfl⟩
  obtain ⟨b2, hb2⟩ : ∃ b, b = n / 2 % 2 * 2 := ⟨_, rfl⟩
  rw [← hb1] at q2 q8
  rw [← hb2] at q3 q9
  clear hb1 hb2
  have q5 : ¬ (n : Int) / 16 ≤ 2 := by omega
  have q5b : 2 < (n : Int) / 16 := by omega
  have hz := blk_drew (heap_alloc_new w (.cells #[.int .i64 0, .bool false, .bool false, .int .i64 0, .int .i64 0] 50))
  have HB := Aside0.mk (below_drew (below_alloc (Below.refl w.heap.size w) (.cells #[.int .i64 0, .bool false, .bool false, .int .i64 0, .int .i64 0] 50)))
  clear h hf hn256 hm4
  go_enter Tryz.func59, Tryz.ntmps59
  go_wp2
  refine start_ (n := 16) (S := fun w' => True) (ds := [15]) #[false, false, false, false, false, false, false, false, false, false, false, false, false, false, false, false] (by kernel_rfl) rfl rfl trivial (fun hHeld => ?_)
  refine with_tabW cpr.tab3 cpr.bits3 (fun HT_ HW_ => ?_)
  generalize (w.alloc (.cells #[.int .i64 0, .bool false, .bool false, .int .i64 0, .int .i64 0] 50)).drew = W at *
  refine pure_ (i := 0) (N := some 14) (v := ?_) (a' := ?_) #[true, false, false, false, false, false, false, false, false, false, false, false, false, false, false, false] rfl rfl (any_of HT_.out (by kernel_rfl)) (fun _ _ _ h => h) (Or.inl ⟨by rfl, ?_⟩) ?_ ?_
  rotate_left
  · intro w'
    go_simp
    with_reducible rfl
  rotate_left
  · simp only [Act.put, List.setIfInBounds_toArray, List.set_cons_zero, List.set_cons_succ, i64_w, i32_w]
    rfl
  refine pure_ (i := 5) (N := some 19) (v := ?_) (a' := ?_) #[true, false, false, false, false, true, false, false, false, false, false, false, false, false, false, false] rfl rfl (any_of HT_.out (by kernel_rfl)) (fun _ _ _ h => h) (Or.inl ⟨by rfl, ?_⟩) ?_ ?_
  rotate_left
  · intro w'
    go_simp
    with_reducible rfl
  rotate_left
  · simp only [Act.put, List.setIfInBounds_toArray, List.set_cons_zero, List.set_cons_succ, i64_w, i32_w]
    rfl
  refine pure_ (i := 9) (N := some 23) (v := ?_) (a' := ?_) #[true, false, false, false, false, true, false, false, false, true, false, false, false, false, false, false] rfl rfl (any_of HT_.out (by kernel_rfl)) (fun _ _ _ h => h) (Or.inl ⟨by rfl, ?_⟩) ?_ ?_
  rotate_left
  · intro w'
    go_simp
    with_reducible rfl
  rotate_left
  · simp only [Act.put, List.setIfInBounds_toArray, List.set_cons_zero, List.set_cons_succ, i64_w, i32_w]
    rfl
  refine take_ (i := 1) (N := some 15) (v := ?_) (a' := ?_) #[true, true, false, false, false, true, false, false, false, true, false, false, false, false, false, false] rfl rfl (take_ofW HT_.out HW_.out (by kernel_rfl)) (fun _ _ _ h => h) (Or.inl ⟨by rfl, ?_⟩) hHeld ?_ ?_
  rotate_left
  · rintro w' s0
    go_simp
    with_reducible rfl
  rotate_left
  · simp only [Act.put, List.setIfInBounds_toArray, List.set_cons_zero, List.set_cons_succ, i64_w, i32_w]
    rfl
  refine pure_ (i := 2) (N := some 16) (v := ?_) (a' := ?_) #[true, true, true, false, false, true, false, false, false, true, false, false, false, false, false, false] rfl rfl (any_of HT_.out (by kernel_rfl)) (fun _ _ _ h => h) (Or.inl ⟨by rfl, ?_⟩) ?_ ?_
  rotate_left
  · intro w'
    go_simp
    with_reducible rfl
  rotate_left
  · simp only [Act.put, List.setIfInBounds_toArray, List.set_cons_zero, List.set_cons_succ, i64_w, i32_w]
    rfl
  refine pure_ (i := 3) (N := some 17) (v := ?_) (a' := ?_) #[true, true, true, true, false, true, false, false, false, true, false, false, false, false, false, false] rfl rfl (any_of HT_.out (by kernel_rfl)) (fun _ _ _ h => h) (Or.inl ⟨by rfl, ?_⟩) ?_ ?_
  rotate_left
  · intro w'
    go_simp
    with_reducible rfl
  rotate_left
  · simp only [Act.put, List.setIfInBounds_toArray, List.set_cons_zero, List.set_cons_succ, i64_w, i32_w]
    rfl
  refine pure_ (i := 4) (N := some 18) (v := ?_) (a' := ?_) #[true, true, true, true, true, true, false, false, false, true, false, false, false, false, false, false] rfl rfl (any_of HT_.out (by kernel_rfl)) (fun _ _ _ h => h) (Or.inl ⟨by rfl, ?_⟩) ?_ ?_
  rotate_left
  · intro w'
    go_simp
    with_reducible rfl
  rotate_left
  · simp only [Act.put, List.setIfInBounds_toArray, List.set_cons_zero, List.set_cons_succ, i64_w, i32_w]
    rfl
  refine take_ (i := 6) (N := some 20) (v := ?_) (a' := ?_) #[true, true, true, true, true, true, true, false, false, true, false, false, false, false, false, false] rfl rfl (take_ofW HT_.out HW_.out (by kernel_rfl)) (fun _ _ _ h => h) (Or.inl ⟨by rfl, ?_⟩) hHeld ?_ ?_
  rotate_left
  · rintro w' s0
    go_simp
    with_reducible rfl
  rotate_left
  · simp only [Act.put, List.setIfInBounds_toArray, List.set_cons_zero, List.set_cons_succ, i64_w, i32_w]
    rfl
  refine pure_ (i := 7) (N := some 21) (v := ?_) (a' := ?_) #[true, true, true, true, true, true, true, true, false, true, false, false, false, false, false, false] rfl rfl (any_of HT_.out (by kernel_rfl)) (fun _ _ _ h => h) (Or.inl ⟨by rfl, ?_⟩) ?_ ?_
  rotate_left
  · intro w'
    go_simp
    with_reducible rfl
  rotate_left
  · simp only [Act.put, List.setIfInBounds_toArray, List.set_cons_zero, List.set_cons_succ, i64_w, i32_w]
    rfl
  refine pure_ (i := 8) (N := some 22) (v := ?_) (a' := ?_) #[true, true, true, true, true, true, true, true, true, true, false, false, false, false, false, false] rfl rfl (any_of HT_.out (by kernel_rfl)) (fun _ _ _ h => h) (Or.inl ⟨by rfl, ?_⟩) ?_ ?_
  rotate_left
  · intro w'
    go_simp
    with_reducible rfl
  rotate_left
  · simp only [Act.put, List.setIfInBounds_toArray, List.set_cons_zero, List.set_cons_succ, i64_w, i32_w]
    rfl
  refine take_ (i := 10) (N := some 24) (v := ?_) (a' := ?_) #[true, true, true, true, true, true, true, true, true, true, true, false, false, false, false, false] rfl rfl (take_ofW HT_.out HW_.out (by kernel_rfl)) (fun _ _ _ h => h) (Or.inl ⟨by rfl, ?_⟩) hHeld ?_ ?_
  rotate_left
  · rintro w' s0
    go_simp
    with_reducible rfl
  rotate_left
  · simp only [Act.put, List.setIfInBounds_toArray, List.set_cons_zero, List.set_cons_succ, i64_w, i32_w]
    rfl
  refine pure_ (i := 11) (N := some 25) (v := ?_) (a' := ?_) #[true, true, true, true, true, true, true, true, true, true, true, true, false, false, false, false] rfl rfl (any_of HT_.out (by kernel_rfl)) (fun _ _ _ h => h) (Or.inl ⟨by rfl, ?_⟩) ?_ ?_
  rotate_left
  · intro w'
    go_simp
    with_reducible rfl
  rotate_left
  · simp only [Act.put, List.setIfInBounds_toArray, List.set_cons_zero, List.set_cons_succ, i64_w, i32_w]
    rfl
  refine pure_ (i := 12) (N := some 26) (v := ?_) (a' := ?_) #[true, true, true, true, true, true, true, true, true, true, true, true, true, false, false, false] rfl rfl (any_of HT_.out (by kernel_rfl)) (fun _ _ _ h => h) (Or.inl ⟨by rfl, ?_⟩) ?_ ?_
  rotate_left
  · intro w'
    go_simp
    with_reducible rfl
  rotate_left
  · simp only [Act.put, List.setIfInBounds_toArray, List.set_cons_zero, List.set_cons_succ, i64_w, i32_w]
    rfl
  refine pure_ (i := 13) (N := some 27) (v := ?_) (a' := ?_) #[true, true, true, true, true, true, true, true, true, true, true, true, true, true, false, false] rfl rfl (any_of HT_.out (by kernel_rfl)) (fun _ _ _ h => h) (Or.inl ⟨by rfl, ?_⟩) ?_ ?_
  rotate_left
  · intro w'
    go_simp
    with_reducible rfl
  rotate_left
  · simp only [Act.put, List.setIfInBounds_toArray, List.set_cons_zero, List.set_cons_succ, i64_w, i32_w]
    rfl
  refine one_ (i := 14) (N := some 5) #[true, true, true, true, true, true, true, true, true, true, true, true, true, true, true, false] rfl rfl (one_of HT_.out (by kernel_rfl)) (by decide) (fun K hK => ?_)
  refine event_step (v := .pointer (some ⟨W.heap.size, 0, none⟩)) (w1 := W.alloc (.cells #[.int .i64 0, .bool false, .bool false, .int .i64 0, .int .i64 0] 50)) (by rfl) (by first | (go_simp; done) | (go_simp; rfl)) ?_
  refine hK.out _ _ trivial (fun hHeld => ?_)
  clear hK K
  simp only [Act.put, List.setIfInBounds_toArray, List.set_cons_zero, List.set_cons_succ]
  refine last_ (i := 15) (N := none) #[true, true, true, true, true, true, true, true, true, true, true, true, true, true, true, true] rfl rfl (one_of HT_.out (by kernel_rfl)) (by decide) (fun K hK => ?_)
  refine skip_ (w1 := ?_) (by rfl) rfl ?_ ?_
  rotate_left
  · go_simp
    rfl
  refine hK.out _ _ ?_
  clear hK K
  refine done_ (done_of HT_.out (by kernel_rfl)) ?_
  have hlt : w.heap.size < W.heap.size := blk_lt hz
  obtain ⟨k0, k1, k2_, k3, k4⟩ := laid5 hz
  obtain ⟨o0, o1, o2, o3, o4⟩ := open5 hz
  have hlt2 : w.heap.size < (((((W.setCell ⟨w.heap.size, 0, none⟩ (.int .i64 0)).setCell ⟨w.heap.size, 1, none⟩ (.bool false)).setCell ⟨w.heap.size, 2, none⟩ (.bool false)).setCell ⟨w.heap.size, 3, none⟩ (.int .i64 0)).setCell ⟨w.heap.size, 4, none⟩ (.int .i64 0)).heap.size := by simpa [World.size_setCell] using hlt
  have HF := Lib.hid (show ((((((W.setCell ⟨w.heap.size, 0, none⟩ (.int .i64 0)).setCell ⟨w.heap.size, 1, none⟩ (.bool false)).setCell ⟨w.heap.size, 2, none⟩ (.bool false)).setCell ⟨w.heap.size, 3, none⟩ (.int .i64 0)).setCell ⟨w.heap.size, 4, none⟩ (.int .i64 0)).alloc (.cells #[.int .i64 m, .bool f, .bool la, .int .i64 0, .int .i64 0] 50)).heap[w.heap.size]? = some (.cells #[(.int .i64 0), (.bool false), (.bool false), (.int .i64 0), (.int .i64 0)] 50 (0, 0)) ∧ Below w.heap.size w ((((((W.setCell ⟨w.heap.size, 0, none⟩ (.int .i64 0)).setCell ⟨w.heap.size, 1, none⟩ (.bool false)).setCell ⟨w.heap.size, 2, none⟩ (.bool false)).setCell ⟨w.heap.size, 3, none⟩ (.int .i64 0)).setCell ⟨w.heap.size, 4, none⟩ (.int .i64 0)).alloc (.cells #[.int .i64 m, .bool f, .bool la, .int .i64 0, .int .i64 0] 50)) from ⟨(Below.heap_alloc _ _ w.heap.size hlt2).trans (set5 (W := W) hz (.int .i64 0) (.bool false) (.bool false) (.int .i64 0) (.int .i64 0)), below_alloc (HB.out.trans (set5_below (Nat.le_refl _) (.int .i64 0) (.bool false) (.bool false) (.int .i64 0) (.int .i64 0))) _⟩)
  clear hz hlt2
  go_wp2
  generalize ((((((W.setCell ⟨w.heap.size, 0, none⟩ (.int .i64 0)).setCell ⟨w.heap.size, 1, none⟩ (.bool false)).setCell ⟨w.heap.size, 2, none⟩ (.bool false)).setCell ⟨w.heap.size, 3, none⟩ (.int .i64 0)).setCell ⟨w.heap.size, 4, none⟩ (.int .i64 0)).alloc (.cells #[.int .i64 m, .bool f, .bool la, .int .i64 0, .int .i64 0] 50)) = X at HF ⊢
  obtain ⟨c0, c1, c2, c3, c4⟩ := laid5 HF.out.1
  exact bodyPost_ret (v := .tuple #[.agg #[(.int .i64 0), (.bool false), (.bool false), (.int .i64 0), (.int .i64 0)], .int .i64 0, .int .i64 2]) (by simp [results, Tryz.results59, go_sem, c0, c1, c2, c3, c4]; try rfl) rfl ⟨rfl, HF.out.2⟩
set_option maxHeartbeats 4000000 in
set_option maxRecDepth 100000 in
theorem pr_bad1 (s : ByteArray) (w : World) (c : UInt8) (r : List UInt8) (h : s.data.toList = c :: r) (hs : s.size ≤ 4294967296) (hf : c.toNat / 16 = 1 ∨ c.toNat / 16 = 2) (hv : vrd 0 0 r = none) :
    Calls Tryz.prog 59 #[.string s] w fun e w' => e = .returned (.tuple #[.agg #[(.int .i64 0), (.bool false), (.bool false), (.int .i64 0), (.int .i64 0)], .int .i64 0, .int .i64 1]) ∧ Below w.heap.size w w' := by
  have hg := get_at s 0 c r h
  obtain ⟨z1, z2, hsz, z3⟩ := str_ne h
  have hsz2 : (0 : Int) < (s.size : Int) := by omega
  have hsz3 : 1 ≤ s.size := hsz
  have hsz4 : (1 : Int) ≤ (s.size : Int) := by omega
  obtain ⟨n, hn⟩ : ∃ n, Hid (c.toNat = n) := ⟨_, Lib.hid rfl⟩
  have hn256 : n < 256 := by have := c.toNat_lt; have := hn.out; omega
  have hcn : c.toNat = n := hn.out
  rw [hcn] at hf
  obtain ⟨m, hm⟩ : ∃ m, Hid (n / 4 % 4 = m) := ⟨_, Lib.hid rfl⟩
  have hm4 : m < 1000000 := by have := hm.out; omega
  obtain ⟨f, hf'⟩ : ∃ f, Hid (decide (n % 2 = 1) = f) := ⟨_, Lib.hid rfl⟩
  obtain ⟨la, hla⟩ : ∃ la, Hid (decide (n / 2 % 2 = 1) = la) := ⟨_, Lib.hid rfl⟩
  have q1 := and3i hn256 hm.out
  have q2 : bits .and .u8 (n : Int) 1 = ((n % 2 : Nat) : Int) := and1 n hn256
  have q3 : bits .and .u8 (n : Int) 2 = ((n / 2 % 2 * 2 : Nat) : Int) := and2 n hn256
  have q6 := (i64n hm4).1
  have q7 := (i64n hm4).2
  have q8 : (((n % 2 : Nat) : Int) != 0) = f := bne_mod.trans hf'.out
  have q9 : (((n / 2 % 2 * 2 : Nat) : Int) != 0) = la := bne_mod2.trans hla.out
  obtain ⟨b1, hb1⟩ : ∃ b, b = n % 2 := ⟨_, rfl⟩
  obtain ⟨b2, hb2⟩ : ∃ b, b = n / 2 % 2 * 2 := ⟨_, rfl⟩
  rw [← hb1] at q2 q8
  rw [← hb2] at q3 q9
  clear hb1 hb2
  have hdl := drop_strD s 1
  obtain ⟨t1, ht1⟩ : ∃ t1, s.extract 1 s.size = t1 := ⟨_, rfl⟩
  have hds : t1.size ≤ 4294967296 := by rw [← ht1, ByteArray.size_extract]; omega
  rw [ht1] at hdl
  have HC1 := Lib.hid (fun W => codVarRead_any t1 W hds none (by rw [hdl, h]; exact hv))
  simp only [cvr] at HC1
  obtain ⟨fm, hfm⟩ : ∃ fm, Hid (n / 16 = fm) := ⟨_, Lib.hid rfl⟩
  have q5 : (n : Int) / 16 = (fm : Int) := q16 hfm.out
  have q5a : ¬ (2 : Int) < (fm : Int) := by have := hfm.out; omega
  have q5b : ((fm : Int) == 0) = false := by rw [beq_eq_false_iff_ne]; have := hfm.out; omega
  have hz := blk_drew (heap_alloc_new w (.cells #[.int .i64 0, .bool false, .bool false, .int .i64 0, .int .i64 0] 50))
  have HB := Aside0.mk (below_drew (below_alloc (Below.refl w.heap.size w) (.cells #[.int .i64 0, .bool false, .bool false, .int .i64 0, .int .i64 0] 50)))
  clear h hf hn256 hm4 hv hs hdl hds
  go_enter Tryz.func59, Tryz.ntmps59
  go_wp2
  refine start_ (n := 16) (S := fun w' => True) (ds := [15]) #[false, false, false, false, false, false, false, false, false, false, false, false, false, false, false, false] (by kernel_rfl) rfl rfl trivial (fun hHeld => ?_)
  refine with_tabW cpr.tab3 cpr.bits3 (fun HT_ HW_ => ?_)
  generalize (w.alloc (.cells #[.int .i64 0, .bool false, .bool false, .int .i64 0, .int .i64 0] 50)).drew = W at *
  refine pure_ (i := 0) (N := some 14) (v := ?_) (a' := ?_) #[true, false, false, false, false, false, false, false, false, false, false, false, false, false, false, false] rfl rfl (any_of HT_.out (by kernel_rfl)) (fun _ _ _ h => h) (Or.inl ⟨by rfl, ?_⟩) ?_ ?_
  rotate_left
  · intro w'
    go_simp
    with_reducible rfl
  rotate_left
  · simp only [Act.put, List.setIfInBounds_toArray, List.set_cons_zero, List.set_cons_succ, i64_w, i32_w]
    rfl
  refine pure_ (i := 5) (N := some 19) (v := ?_) (a' := ?_) #[true, false, false, false, false, true, false, false, false, false, false, false, false, false, false, false] rfl rfl (any_of HT_.out (by kernel_rfl)) (fun _ _ _ h => h) (Or.inl ⟨by rfl, ?_⟩) ?_ ?_
  rotate_left
  · intro w'
    go_simp
    with_reducible rfl
  rotate_left
  · simp only [Act.put, List.setIfInBounds_toArray, List.set_cons_zero, List.set_cons_succ, i64_w, i32_w]
    rfl
  refine pure_ (i := 9) (N := some 23) (v := ?_) (a' := ?_) #[true, false, false, false, false, true, false, false, false, true, false, false, false, false, false, false] rfl rfl (any_of HT_.out (by kernel_rfl)) (fun _ _ _ h => h) (Or.inl ⟨by rfl, ?_⟩) ?_ ?_
  rotate_left
  · intro w'
    go_simp
    with_reducible rfl
  rotate_left
  · simp only [Act.put, List.setIfInBounds_toArray, List.set_cons_zero, List.set_cons_succ, i64_w, i32_w]
    rfl
  refine take_ (i := 1) (N := some 15) (v := ?_) (a' := ?_) #[true, true, false, false, false, true, false, false, false, true, false, false, false, false, false, false] rfl rfl (take_ofW HT_.out HW_.out (by kernel_rfl)) (fun _ _ _ h => h) (Or.inl ⟨by rfl, ?_⟩) hHeld ?_ ?_
  rotate_left
  · rintro w' s0
    go_simp
    with_reducible rfl
  rotate_left
  · simp only [Act.put, List.setIfInBounds_toArray, List.set_cons_zero, List.set_cons_succ, i64_w, i32_w]
    rfl
  refine pure_ (i := 2) (N := some 16) (v := ?_) (a' := ?_) #[true, true, true, false, false, true, false, false, false, true, false, false, false, false, false, false] rfl rfl (any_of HT_.out (by kernel_rfl)) (fun _ _ _ h => h) (Or.inl ⟨by rfl, ?_⟩) ?_ ?_
  rotate_left
  · intro w'
    go_simp
    with_reducible rfl
  rotate_left
  · simp only [Act.put, List.setIfInBounds_toArray, List.set_cons_zero, List.set_cons_succ, i64_w, i32_w]
    rfl
  refine pure_ (i := 3) (N := some 17) (v := ?_) (a' := ?_) #[true, true, true, true, false, true, false, false, false, true, false, false, false, false, false, false] rfl rfl (any_of HT_.out (by kernel_rfl)) (fun _ _ _ h => h) (Or.inl ⟨by rfl, ?_⟩) ?_ ?_
  rotate_left
  · intro w'
    go_simp
    with_reducible rfl
  rotate_left
  · simp only [Act.put, List.setIfInBounds_toArray, List.set_cons_zero, List.set_cons_succ, i64_w, i32_w]
    rfl
  refine pure_ (i := 4) (N := some 18) (v := ?_) (a' := ?_) #[true, true, true, true, true, true, false, false, false, true, false, false, false, false, false, false] rfl rfl (any_of HT_.out (by kernel_rfl)) (fun _ _ _ h => h) (Or.inl ⟨by rfl, ?_⟩) ?_ ?_
  rotate_left
  · intro w'
    go_simp
    with_reducible rfl
  rotate_left
  · simp only [Act.put, List.setIfInBounds_toArray, List.set_cons_zero, List.set_cons_succ, i64_w, i32_w]
    rfl
  refine take_ (i := 6) (N := some 20) (v := ?_) (a' := ?_) #[true, true, true, true, true, true, true, false, false, true, false, false, false, false, false, false] rfl rfl (take_ofW HT_.out HW_.out (by kernel_rfl)) (fun _ _ _ h => h) (Or.inl ⟨by rfl, ?_⟩) hHeld ?_ ?_
  rotate_left
  · rintro w' s0
    go_simp
    with_reducible rfl
  rotate_left
  · simp only [Act.put, List.setIfInBounds_toArray, List.set_cons_zero, List.set_cons_succ, i64_w, i32_w]
    rfl
  refine pure_ (i := 7) (N := some 21) (v := ?_) (a' := ?_) #[true, true, true, true, true, true, true, true, false, true, false, false, false, false, false, false] rfl rfl (any_of HT_.out (by kernel_rfl)) (fun _ _ _ h => h) (Or.inl ⟨by rfl, ?_⟩) ?_ ?_
  rotate_left
  · intro w'
    go_simp
    with_reducible rfl
  rotate_left
  · simp only [Act.put, List.setIfInBounds_toArray, List.set_cons_zero, List.set_cons_succ, i64_w, i32_w]
    rfl
  refine pure_ (i := 8) (N := some 22) (v := ?_) (a' := ?_) #[true, true, true, true, true, true, true, true, true, true, false, false, false, false, false, false] rfl rfl (any_of HT_.out (by kernel_rfl)) (fun _ _ _ h => h) (Or.inl ⟨by rfl, ?_⟩) ?_ ?_
  rotate_left
  · intro w'
    go_simp
    with_reducible rfl
  rotate_left
  · simp only [Act.put, List.setIfInBounds_toArray, List.set_cons_zero, List.set_cons_succ, i64_w, i32_w]
    rfl
  refine take_ (i := 10) (N := some 24) (v := ?_) (a' := ?_) #[true, true, true, true, true, true, true, true, true, true, true, false, false, false, false, false] rfl rfl (take_ofW HT_.out HW_.out (by kernel_rfl)) (fun _ _ _ h => h) (Or.inl ⟨by rfl, ?_⟩) hHeld ?_ ?_
  rotate_left
  · rintro w' s0
    go_simp
    with_reducible rfl
  rotate_left
  · simp only [Act.put, List.setIfInBounds_toArray, List.set_cons_zero, List.set_cons_succ, i64_w, i32_w]
    rfl
  refine pure_ (i := 11) (N := some 25) (v := ?_) (a' := ?_) #[true, true, true, true, true, true, true, true, true, true, true, true, false, false, false, false] rfl rfl (any_of HT_.out (by kernel_rfl)) (fun _ _ _ h => h) (Or.inl ⟨by rfl, ?_⟩) ?_ ?_
  rotate_left
  · intro w'
    go_simp
    with_reducible rfl
  rotate_left
  · simp only [Act.put, List.setIfInBounds_toArray, List.set_cons_zero, List.set_cons_succ, i64_w, i32_w]
    rfl
  refine pure_ (i := 12) (N := some 26) (v := ?_) (a' := ?_) #[true, true, true, true, true, true, true, true, true, true, true, true, true, false, false, false] rfl rfl (any_of HT_.out (by kernel_rfl)) (fun _ _ _ h => h) (Or.inl ⟨by rfl, ?_⟩) ?_ ?_
  rotate_left
  · intro w'
    go_simp
    with_reducible rfl
  rotate_left
  · simp only [Act.put, List.setIfInBounds_toArray, List.set_cons_zero, List.set_cons_succ, i64_w, i32_w]
    rfl
  refine pure_ (i := 13) (N := some 27) (v := ?_) (a' := ?_) #[true, true, true, true, true, true, true, true, true, true, true, true, true, true, false, false] rfl rfl (any_of HT_.out (by kernel_rfl)) (fun _ _ _ h => h) (Or.inl ⟨by rfl, ?_⟩) ?_ ?_
  rotate_left
  · intro w'
    go_simp
    with_reducible rfl
  rotate_left
  · simp only [Act.put, List.setIfInBounds_toArray, List.set_cons_zero, List.set_cons_succ, i64_w, i32_w]
    rfl
  refine one_ (i := 14) (N := some 5) #[true, true, true, true, true, true, true, true, true, true, true, true, true, true, true, false] rfl rfl (one_of HT_.out (by kernel_rfl)) (by decide) (fun K hK => ?_)
  refine event_step (v := .pointer (some ⟨W.heap.size, 0, none⟩)) (w1 := W.alloc (.cells #[.int .i64 0, .bool false, .bool false, .int .i64 0, .int .i64 0] 50)) (by rfl) (by first | (go_simp; done) | (go_simp; rfl)) ?_
  refine hK.out _ _ trivial (fun hHeld => ?_)
  clear hK K
  simp only [Act.put, List.setIfInBounds_toArray, List.set_cons_zero, List.set_cons_succ]
  refine last_ (i := 15) (N := none) #[true, true, true, true, true, true, true, true, true, true, true, true, true, true, true, true] rfl rfl (one_of HT_.out (by kernel_rfl)) (by decide) (fun K hK => ?_)
  refine skip_ (w1 := ?_) (by rfl) rfl ?_ ?_
  rotate_left
  · go_simp
    rfl
  refine hK.out _ _ ?_
  clear hK K
  refine done_ (done_of HT_.out (by kernel_rfl)) ?_
  have hlt : w.heap.size < W.heap.size := blk_lt hz
  obtain ⟨k0, k1, k2_, k3, k4⟩ := laid5 hz
  obtain ⟨o0, o1, o2, o3, o4⟩ := open5 hz
  have hlt2 : w.heap.size < (((((W.setCell ⟨w.heap.size, 0, none⟩ (.int .i64 0)).setCell ⟨w.heap.size, 1, none⟩ (.bool false)).setCell ⟨w.heap.size, 2, none⟩ (.bool false)).setCell ⟨w.heap.size, 3, none⟩ (.int .i64 0)).setCell ⟨w.heap.size, 4, none⟩ (.int .i64 0)).heap.size := by simpa [World.size_setCell] using hlt
  have HF := Lib.hid (show ((((((W.setCell ⟨w.heap.size, 0, none⟩ (.int .i64 0)).setCell ⟨w.heap.size, 1, none⟩ (.bool false)).setCell ⟨w.heap.size, 2, none⟩ (.bool false)).setCell ⟨w.heap.size, 3, none⟩ (.int .i64 0)).setCell ⟨w.heap.size, 4, none⟩ (.int .i64 0)).alloc (.cells #[.int .i64 m, .bool f, .bool la, .int .i64 0, .int .i64 0] 50)).heap[w.heap.size]? = some (.cells #[(.int .i64 0), (.bool false), (.bool false), (.int .i64 0), (.int .i64 0)] 50 (0, 0)) ∧ Below w.heap.size w ((((((W.setCell ⟨w.heap.size, 0, none⟩ (.int .i64 0)).setCell ⟨w.heap.size, 1, none⟩ (.bool false)).setCell ⟨w.heap.size, 2, none⟩ (.bool false)).setCell ⟨w.heap.size, 3, none⟩ (.int .i64 0)).setCell ⟨w.heap.size, 4, none⟩ (.int .i64 0)).alloc (.cells #[.int .i64 m, .bool f, .bool la, .int .i64 0, .int .i64 0] 50)) from ⟨(Below.heap_alloc _ _ w.heap.size hlt2).trans (set5 (W := W) hz (.int .i64 0) (.bool false) (.bool false) (.int .i64 0) (.int .i64 0)), below_alloc (HB.out.trans (set5_below (Nat.le_refl _) (.int .i64 0) (.bool false) (.bool false) (.int .i64 0) (.int .i64 0))) _⟩)
  clear hz hlt2
  go_wp2_with ((go_at_call 60; go_loud ((with_reducible refine (HC1.out _).mono ?_); rintro e_ w0 ⟨rfl, rfl⟩)))
  generalize ((((((W.setCell ⟨w.heap.size, 0, none⟩ (.int .i64 0)).setCell ⟨w.heap.size, 1, none⟩ (.bool false)).setCell ⟨w.heap.size, 2, none⟩ (.bool false)).setCell ⟨w.heap.size, 3, none⟩ (.int .i64 0)).setCell ⟨w.heap.size, 4, none⟩ (.int .i64 0)).alloc (.cells #[.int .i64 m, .bool f, .bool la, .int .i64 0, .int .i64 0] 50)) = X at HF ⊢
  obtain ⟨c0, c1, c2, c3, c4⟩ := laid5 HF.out.1
  exact bodyPost_ret (v := .tuple #[.agg #[(.int .i64 0), (.bool false), (.bool false), (.int .i64 0), (.int .i64 0)], .int .i64 0, .int .i64 1]) (by simp [results, Tryz.results59, go_sem, c0, c1, c2, c3, c4]; try rfl) rfl ⟨rfl, HF.out.2⟩
set_option maxHeartbeats 4000000 in
set_option maxRecDepth 100000 in
theorem pr_1z (s : ByteArray) (w : World) (c : UInt8) (r : List UInt8) (h : s.data.toList = c :: r) (hs : s.size ≤ 4294967296) (hf : c.toNat / 16 = 1) (hy : c.toNat / 4 % 4 = 0) (v k : Nat) (hv : vrd 0 0 r = some (v, k)) :
    Calls Tryz.prog 59 #[.string s] w fun e w' => e = .returned (.tuple #[.agg #[(.int .i64 (c.toNat / 4 % 4 : Nat)), (.bool (c.toNat % 2 = 1)), (.bool (c.toNat / 2 % 2 = 1)), (.int .i64 (wrap64 (v : Nat))), (.int .i64 (-1))], .int .i64 (1 + k : Nat), .int .i64 0]) ∧ Below w.heap.size w w' := by
  have hg := get_at s 0 c r h
  obtain ⟨z1, z2, hsz, z3⟩ := str_ne h
  have hsz2 : (0 : Int) < (s.size : Int) := by omega
  have hsz3 : 1 ≤ s.size := hsz
  have hsz4 : (1 : Int) ≤ (s.size : Int) := by omega
  obtain ⟨n, hn⟩ : ∃ n, Hid (c.toNat = n) := ⟨_, Lib.hid rfl⟩
  have hn256 : n < 256 := by have := c.toNat_lt; have := hn.out; omega
  have hcn : c.toNat = n := hn.out
  rw [hcn] at hf hy ⊢
  obtain ⟨m, hm⟩ : ∃ m, Hid (n / 4 % 4 = m) := ⟨_, Lib.hid rfl⟩
  have hm4 : m < 1000000 := by have := hm.out; omega
  obtain ⟨f, hf'⟩ : ∃ f, Hid (decide (n % 2 = 1) = f) := ⟨_, Lib.hid rfl⟩
  obtain ⟨la, hla⟩ : ∃ la, Hid (decide (n / 2 % 2 = 1) = la) := ⟨_, Lib.hid rfl⟩
  rw [hm.out, hf'.out, hla.out]
  have q1 := and3i hn256 hm.out
  have q2 : bits .and .u8 (n : Int) 1 = ((n % 2 : Nat) : Int) := and1 n hn256
  have q3 : bits .and .u8 (n : Int) 2 = ((n / 2 % 2 * 2 : Nat) : Int) := and2 n hn256
  have q6 := (i64n hm4).1
  have q7 := (i64n hm4).2
  have q8 : (((n % 2 : Nat) : Int) != 0) = f := bne_mod.trans hf'.out
  have q9 : (((n / 2 % 2 * 2 : Nat) : Int) != 0) = la := bne_mod2.trans hla.out
  obtain ⟨b1, hb1⟩ : ∃ b, b = n % 2 := ⟨_, rfl⟩
  obtain ⟨b2, hb2⟩ : ∃ b, b = n / 2 % 2 * 2 := ⟨_, rfl⟩
  rw [← hb1] at q2 q8
  rw [← hb2] at q3 q9
  clear hb1 hb2
  have hdl := drop_strD s 1
  obtain ⟨t1, ht1⟩ : ∃ t1, s.extract 1 s.size = t1 := ⟨_, rfl⟩
  have hds : t1.size ≤ 4294967296 := by rw [← ht1, ByteArray.size_extract]; omega
  rw [ht1] at hdl
  have HC1 := Lib.hid (fun W => codVarRead_any t1 W hds (some (v, k)) (by rw [hdl, h]; exact hv))
  simp only [cvr] at HC1
  have q5 : (n : Int) / 16 = 1 := q16 hf
  obtain ⟨f1, f2, f3, f4⟩ := vrd_facts _ 0 0 v k (by decide) hv
  have hrl : r.length + 1 = s.size := by have := congrArg List.length h; rw [Array.length_toList] at this; simpa using this.symm
  obtain ⟨V, hV⟩ : ∃ V, Hid (wrap64 ((v : Nat) : Int) = V) := ⟨_, Lib.hid rfl⟩
  have qV : wrap64 ((v : Nat) : Int) = V := hV.out
  have qV2 : IntKind.i64.wrap ((v : Nat) : Int) = V := (IntWalk.i64_left _).trans hV.out
  rw [hV.out]
  obtain ⟨K1, hK1⟩ : ∃ K1, Hid (1 + k = K1) := ⟨_, Lib.hid rfl⟩
  have qK : wrap64 (1 + (k : Int)) = (K1 : Int) := by rw [IntWalk.wrap64_in _ (by omega)]; have := hK1.out; omega
  have qK2 : IntKind.i64.wrap (1 + (k : Int)) = (K1 : Int) := by rw [IntWalk.i64_in _ (by omega)]; have := hK1.out; omega
  rw [hK1.out]
  have qy : ((m : Int) == 0) = true := by have := hm.out; rw [beq_iff_eq]; omega
  have hz := blk_drew (heap_alloc_new w (.cells #[.int .i64 0, .bool false, .bool false, .int .i64 0, .int .i64 0] 50))
  have HB := Aside0.mk (below_drew (below_alloc (Below.refl w.heap.size w) (.cells #[.int .i64 0, .bool false, .bool false, .int .i64 0, .int .i64 0] 50)))
  clear h hf hn256 hm4 hv hs hdl hds f1 f2 f3 f4 hrl hy
  go_enter Tryz.func59, Tryz.ntmps59
  go_wp2
  refine start_ (n := 16) (S := fun w' => True) (ds := [15]) #[false, false, false, false, false, false, false, false, false, false, false, false, false, false, false, false] (by kernel_rfl) rfl rfl trivial (fun hHeld => ?_)
  refine with_tabW cpr.tab3 cpr.bits3 (fun HT_ HW_ => ?_)
  generalize (w.alloc (.cells #[.int .i64 0, .bool false, .bool false, .int .i64 0, .int .i64 0] 50)).drew = W at *
  refine pure_ (i := 0) (N := some 14) (v := ?_) (a' := ?_) #[true, false, false, false, false, false, false, false, false, false, false, false, false, false, false, false] rfl rfl (any_of HT_.out (by kernel_rfl)) (fun _ _ _ h => h) (Or.inl ⟨by rfl, ?_⟩) ?_ ?_
  rotate_left
  · intro w'
    go_simp
    with_reducible rfl
  rotate_left
  · simp only [Act.put, List.setIfInBounds_toArray, List.set_cons_zero, List.set_cons_succ, i64_w, i32_w]
    rfl
  refine pure_ (i := 5) (N := some 19) (v := ?_) (a' := ?_) #[true, false, false, false, false, true, false, false, false, false, false, false, false, false, false, false] rfl rfl (any_of HT_.out (by kernel_rfl)) (fun _ _ _ h => h) (Or.inl ⟨by rfl, ?_⟩) ?_ ?_
  rotate_left
  · intro w'
    go_simp
    with_reducible rfl
  rotate_left
  · simp only [Act.put, List.setIfInBounds_toArray, List.set_cons_zero, List.set_cons_succ, i64_w, i32_w]
    rfl
  refine pure_ (i := 9) (N := some 23) (v := ?_) (a' := ?_) #[true, false, false, false, false, true, false, false, false, true, false, false, false, false, false, false] rfl rfl (any_of HT_.out (by kernel_rfl)) (fun _ _ _ h => h) (Or.inl ⟨by rfl, ?_⟩) ?_ ?_
  rotate_left
  · intro w'
    go_simp
    with_reducible rfl
  rotate_left
  · simp only [Act.put, List.setIfInBounds_toArray, List.set_cons_zero, List.set_cons_succ, i64_w, i32_w]
    rfl
  refine take_ (i := 1) (N := some 15) (v := ?_) (a' := ?_) #[true, true, false, false, false, true, false, false, false, true, false, false, false, false, false, false] rfl rfl (take_ofW HT_.out HW_.out (by kernel_rfl)) (fun _ _ _ h => h) (Or.inl ⟨by rfl, ?_⟩) hHeld ?_ ?_
  rotate_left
  · rintro w' s0
    go_simp
    with_reducible rfl
  rotate_left
  · simp only [Act.put, List.setIfInBounds_toArray, List.set_cons_zero, List.set_cons_succ, i64_w, i32_w]
    rfl
  refine pure_ (i := 2) (N := some 16) (v := ?_) (a' := ?_) #[true, true, true, false, false, true, false, false, false, true, false, false, false, false, false, false] rfl rfl (any_of HT_.out (by kernel_rfl)) (fun _ _ _ h => h) (Or.inl ⟨by rfl, ?_⟩) ?_ ?_
  rotate_left
  · intro w'
    go_simp
    with_reducible rfl
  rotate_left
  · simp only [Act.put, List.setIfInBounds_toArray, List.set_cons_zero, List.set_cons_succ, i64_w, i32_w]
    rfl
  refine pure_ (i := 3) (N := some 17) (v := ?_) (a' := ?_) #[true, true, true, true, false, true, false, false, false, true, false, false, false, false, false, false] rfl rfl (any_of HT_.out (by kernel_rfl)) (fun _ _ _ h => h) (Or.inl ⟨by rfl, ?_⟩) ?_ ?_
  rotate_left
  · intro w'
    go_simp
    with_reducible rfl
  rotate_left
  · simp only [Act.put, List.setIfInBounds_toArray, List.set_cons_zero, List.set_cons_succ, i64_w, i32_w]
    rfl
  refine pure_ (i := 4) (N := some 18) (v := ?_) (a' := ?_) #[true, true, true, true, true, true, false, false, false, true, false, false, false, false, false, false] rfl rfl (any_of HT_.out (by kernel_rfl)) (fun _ _ _ h => h) (Or.inl ⟨by rfl, ?_⟩) ?_ ?_
  rotate_left
  · intro w'
    go_simp
    with_reducible rfl
  rotate_left
  · simp only [Act.put, List.setIfInBounds_toArray, List.set_cons_zero, List.set_cons_succ, i64_w, i32_w]
    rfl
  refine take_ (i := 6) (N := some 20) (v := ?_) (a' := ?_) #[true, true, true, true, true, true, true, false, false, true, false, false, false, false, false, false] rfl rfl (take_ofW HT_.out HW_.out (by kernel_rfl)) (fun _ _ _ h => h) (Or.inl ⟨by rfl, ?_⟩) hHeld ?_ ?_
  rotate_left
  · rintro w' s0
    go_simp
    with_reducible rfl
  rotate_left
  · simp only [Act.put, List.setIfInBounds_toArray, List.set_cons_zero, List.set_cons_succ, i64_w, i32_w]
    rfl
  refine pure_ (i := 7) (N := some 21) (v := ?_) (a' := ?_) #[true, true, true, true, true, true, true, true, false, true, false, false, false, false, false, false] rfl rfl (any_of HT_.out (by kernel_rfl)) (fun _ _ _ h => h) (Or.inl ⟨by rfl, ?_⟩) ?_ ?_
  rotate_left
  · intro w'
    go_simp
    with_reducible rfl
  rotate_left
  · simp only [Act.put, List.setIfInBounds_toArray, List.set_cons_zero, List.set_cons_succ, i64_w, i32_w]
    rfl
  refine pure_ (i := 8) (N := some 22) (v := ?_) (a' := ?_) #[true, true, true, true, true, true, true, true, true, true, false, false, false, false, false, false] rfl rfl (any_of HT_.out (by kernel_rfl)) (fun _ _ _ h => h) (Or.inl ⟨by rfl, ?_⟩) ?_ ?_
  rotate_left
  · intro w'
    go_simp
    with_reducible rfl
  rotate_left
  · simp only [Act.put, List.setIfInBounds_toArray, List.set_cons_zero, List.set_cons_succ, i64_w, i32_w]
    rfl
  refine take_ (i := 10) (N := some 24) (v := ?_) (a' := ?_) #[true, true, true, true, true, true, true, true, true, true, true, false, false, false, false, false] rfl rfl (take_ofW HT_.out HW_.out (by kernel_rfl)) (fun _ _ _ h => h) (Or.inl ⟨by rfl, ?_⟩) hHeld ?_ ?_
  rotate_left
  · rintro w' s0
    go_simp
    with_reducible rfl
  rotate_left
  · simp only [Act.put, List.setIfInBounds_toArray, List.set_cons_zero, List.set_cons_succ, i64_w, i32_w]
    rfl
  refine pure_ (i := 11) (N := some 25) (v := ?_) (a' := ?_) #[true, true, true, true, true, true, true, true, true, true, true, true, false, false, false, false] rfl rfl (any_of HT_.out (by kernel_rfl)) (fun _ _ _ h => h) (Or.inl ⟨by rfl, ?_⟩) ?_ ?_
  rotate_left
  · intro w'
    go_simp
    with_reducible rfl
  rotate_left
  · simp only [Act.put, List.setIfInBounds_toArray, List.set_cons_zero, List.set_cons_succ, i64_w, i32_w]
    rfl
  refine pure_ (i := 12) (N := some 26) (v := ?_) (a' := ?_) #[true, true, true, true, true, true, true, true, true, true, true, true, true, false, false, false] rfl rfl (any_of HT_.out (by kernel_rfl)) (fun _ _ _ h => h) (Or.inl ⟨by rfl, ?_⟩) ?_ ?_
  rotate_left
  · intro w'
    go_simp
    with_reducible rfl
  rotate_left
  · simp only [Act.put, List.setIfInBounds_toArray, List.set_cons_zero, List.set_cons_succ, i64_w, i32_w]
    rfl
  refine pure_ (i := 13) (N := some 27) (v := ?_) (a' := ?_) #[true, true, true, true, true, true, true, true, true, true, true, true, true, true, false, false] rfl rfl (any_of HT_.out (by kernel_rfl)) (fun _ _ _ h => h) (Or.inl ⟨by rfl, ?_⟩) ?_ ?_
  rotate_left
  · intro w'
    go_simp
    with_reducible rfl
  rotate_left
  · simp only [Act.put, List.setIfInBounds_toArray, List.set_cons_zero, List.set_cons_succ, i64_w, i32_w]
    rfl
  refine one_ (i := 14) (N := some 5) #[true, true, true, true, true, true, true, true, true, true, true, true, true, true, true, false] rfl rfl (one_of HT_.out (by kernel_rfl)) (by decide) (fun K hK => ?_)
  refine event_step (v := .pointer (some ⟨W.heap.size, 0, none⟩)) (w1 := W.alloc (.cells #[.int .i64 0, .bool false, .bool false, .int .i64 0, .int .i64 0] 50)) (by rfl) (by first | (go_simp; done) | (go_simp; rfl)) ?_
  refine hK.out _ _ trivial (fun hHeld => ?_)
  clear hK K
  simp only [Act.put, List.setIfInBounds_toArray, List.set_cons_zero, List.set_cons_succ]
  refine last_ (i := 15) (N := none) #[true, true, true, true, true, true, true, true, true, true, true, true, true, true, true, true] rfl rfl (one_of HT_.out (by kernel_rfl)) (by decide) (fun K hK => ?_)
  refine skip_ (w1 := ?_) (by rfl) rfl ?_ ?_
  rotate_left
  · go_simp
    rfl
  refine hK.out _ _ ?_
  clear hK K
  refine done_ (done_of HT_.out (by kernel_rfl)) ?_
  have hlt : w.heap.size < W.heap.size := blk_lt hz
  obtain ⟨k0, k1, k2_, k3, k4⟩ := laid5 hz
  obtain ⟨o0, o1, o2, o3, o4⟩ := open5 hz
  have hlt2 : w.heap.size < (((((W.setCell ⟨w.heap.size, 0, none⟩ (.int .i64 m)).setCell ⟨w.heap.size, 1, none⟩ (.bool f)).setCell ⟨w.heap.size, 2, none⟩ (.bool la)).setCell ⟨w.heap.size, 3, none⟩ (.int .i64 V)).setCell ⟨w.heap.size, 4, none⟩ (.int .i64 (-1))).heap.size := by simpa [World.size_setCell] using hlt
  have HF := Lib.hid (show ((((((W.setCell ⟨w.heap.size, 0, none⟩ (.int .i64 m)).setCell ⟨w.heap.size, 1, none⟩ (.bool f)).setCell ⟨w.heap.size, 2, none⟩ (.bool la)).setCell ⟨w.heap.size, 3, none⟩ (.int .i64 V)).setCell ⟨w.heap.size, 4, none⟩ (.int .i64 (-1))).alloc (.cells #[.int .i64 m, .bool f, .bool la, .int .i64 V, .int .i64 (-1)] 50)).heap[w.heap.size]? = some (.cells #[(.int .i64 m), (.bool f), (.bool la), (.int .i64 V), (.int .i64 (-1))] 50 (0, 0)) ∧ Below w.heap.size w ((((((W.setCell ⟨w.heap.size, 0, none⟩ (.int .i64 m)).setCell ⟨w.heap.size, 1, none⟩ (.bool f)).setCell ⟨w.heap.size, 2, none⟩ (.bool la)).setCell ⟨w.heap.size, 3, none⟩ (.int .i64 V)).setCell ⟨w.heap.size, 4, none⟩ (.int .i64 (-1))).alloc (.cells #[.int .i64 m, .bool f, .bool la, .int .i64 V, .int .i64 (-1)] 50)) from ⟨(Below.heap_alloc _ _ w.heap.size hlt2).trans (set5 (W := W) hz (.int .i64 m) (.bool f) (.bool la) (.int .i64 V) (.int .i64 (-1))), below_alloc (HB.out.trans (set5_below (Nat.le_refl _) (.int .i64 m) (.bool f) (.bool la) (.int .i64 V) (.int .i64 (-1)))) _⟩)
  clear hz hlt2
  go_wp2_with ((go_at_call 60; go_loud ((with_reducible refine (HC1.out _).mono ?_); rintro e_ w0 ⟨rfl, rfl⟩)))
  generalize ((((((W.setCell ⟨w.heap.size, 0, none⟩ (.int .i64 m)).setCell ⟨w.heap.size, 1, none⟩ (.bool f)).setCell ⟨w.heap.size, 2, none⟩ (.bool la)).setCell ⟨w.heap.size, 3, none⟩ (.int .i64 V)).setCell ⟨w.heap.size, 4, none⟩ (.int .i64 (-1))).alloc (.cells #[.int .i64 m, .bool f, .bool la, .int .i64 V, .int .i64 (-1)] 50)) = X at HF ⊢
  obtain ⟨c0, c1, c2, c3, c4⟩ := laid5 HF.out.1
  exact bodyPost_ret (v := .tuple #[.agg #[(.int .i64 m), (.bool f), (.bool la), (.int .i64 V), (.int .i64 (-1))], .int .i64 K1, .int .i64 0]) (by simp [results, Tryz.results59, go_sem, c0, c1, c2, c3, c4]; try rfl) rfl ⟨rfl, HF.out.2⟩
set_option maxHeartbeats 4000000 in
set_option maxRecDepth 100000 in
theorem pr_1 (s : ByteArray) (w : World) (c : UInt8) (r : List UInt8) (h : s.data.toList = c :: r) (hs : s.size ≤ 4294967296) (hf : c.toNat / 16 = 1) (hy : c.toNat / 4 % 4 ≠ 0) (v k : Nat) (hv : vrd 0 0 r = some (v, k)) :
    Calls Tryz.prog 59 #[.string s] w fun e w' => e = .returned (.tuple #[.agg #[(.int .i64 (c.toNat / 4 % 4 : Nat)), (.bool (c.toNat % 2 = 1)), (.bool (c.toNat / 2 % 2 = 1)), (.int .i64 (wrap64 (v : Nat))), (.int .i64 (wrap64 (v : Nat)))], .int .i64 (1 + k : Nat), .int .i64 0]) ∧ Below w.heap.size w w' := by
  have hg := get_at s 0 c r h
  obtain ⟨z1, z2, hsz, z3⟩ := str_ne h
  have hsz2 : (0 : Int) < (s.size : Int) := by omega
  have hsz3 : 1 ≤ s.size := hsz
  have hsz4 : (1 : Int) ≤ (s.size : Int) := by omega
  obtain ⟨n, hn⟩ : ∃ n, Hid (c.toNat = n) := ⟨_, Lib.hid rfl⟩
  have hn256 : n < 256 := by have := c.toNat_lt; have := hn.out; omega
  have hcn : c.toNat = n := hn.out
  rw [hcn] at hf hy ⊢
  obtain ⟨m, hm⟩ : ∃ m, Hid (n / 4 % 4 = m) := ⟨_, Lib.hid rfl⟩
  have hm4 : m < 1000000 := by have := hm.out; omega
  obtain ⟨f, hf'⟩ : ∃ f, Hid (decide (n % 2 = 1) = f) := ⟨_, Lib.hid rfl⟩
  obtain ⟨la, hla⟩ : ∃ la, Hid (decide (n / 2 % 2 = 1) = la) := ⟨_, Lib.hid rfl⟩
  rw [hm.out, hf'.out, hla.out]
  have q1 := and3i hn256 hm.out
  have q2 : bits .and .u8 (n : Int) 1 = ((n % 2 : Nat) : Int) := and1 n hn256
  have q3 : bits .and .u8 (n : Int) 2 = ((n / 2 % 2 * 2 : Nat) : Int) := and2 n hn256
  have q6 := (i64n hm4).1
  have q7 := (i64n hm4).2
  have q8 : (((n % 2 : Nat) : Int) != 0) = f := bne_mod.trans hf'.out
  have q9 : (((n / 2 % 2 * 2 : Nat) : Int) != 0) = la := bne_mod2.trans hla.out
  obtain ⟨b1, hb1⟩ : ∃ b, b = n % 2 := ⟨_, rfl⟩
  obtain ⟨b2, hb2⟩ : ∃ b, b = n / 2 % 2 * 2 := ⟨_, rfl⟩
  rw [← hb1] at q2 q8
  rw [← hb2] at q3 q9
  clear hb1 hb2
  have hdl := drop_strD s 1
  obtain ⟨t1, ht1⟩ : ∃ t1, s.extract 1 s.size = t1 := ⟨_, rfl⟩
  have hds : t1.size ≤ 4294967296 := by rw [← ht1, ByteArray.size_extract]; omega
  rw [ht1] at hdl
  have HC1 := Lib.hid (fun W => codVarRead_any t1 W hds (some (v, k)) (by rw [hdl, h]; exact hv))
  simp only [cvr] at HC1
  have q5 : (n : Int) / 16 = 1 := q16 hf
  obtain ⟨f1, f2, f3, f4⟩ := vrd_facts _ 0 0 v k (by decide) hv
  have hrl : r.length + 1 = s.size := by have := congrArg List.length h; rw [Array.length_toList] at this; simpa using this.symm
  obtain ⟨V, hV⟩ : ∃ V, Hid (wrap64 ((v : Nat) : Int) = V) := ⟨_, Lib.hid rfl⟩
  have qV : wrap64 ((v : Nat) : Int) = V := hV.out
  have qV2 : IntKind.i64.wrap ((v : Nat) : Int) = V := (IntWalk.i64_left _).trans hV.out
  rw [hV.out]
  obtain ⟨K1, hK1⟩ : ∃ K1, Hid (1 + k = K1) := ⟨_, Lib.hid rfl⟩
  have qK : wrap64 (1 + (k : Int)) = (K1 : Int) := by rw [IntWalk.wrap64_in _ (by omega)]; have := hK1.out; omega
  have qK2 : IntKind.i64.wrap (1 + (k : Int)) = (K1 : Int) := by rw [IntWalk.i64_in _ (by omega)]; have := hK1.out; omega
  rw [hK1.out]
  have qy : ((m : Int) == 0) = false := by have := hm.out; rw [beq_eq_false_iff_ne]; omega
  have hz := blk_drew (heap_alloc_new w (.cells #[.int .i64 0, .bool false, .bool false, .int .i64 0, .int .i64 0] 50))
  have HB := Aside0.mk (below_drew (below_alloc (Below.refl w.heap.size w) (.cells #[.int .i64 0, .bool false, .bool false, .int .i64 0, .int .i64 0] 50)))
  clear h hf hn256 hm4 hv hs hdl hds f1 f2 f3 f4 hrl hy
  go_enter Tryz.func59, Tryz.ntmps59
  go_wp2
  refine start_ (n := 16) (S := fun w' => True) (ds := [15]) #[false, false, false, false, false, false, false, false, false, false, false, false, false, false, false, false] (by kernel_rfl) rfl rfl trivial (fun hHeld => ?_)
  refine with_tabW cpr.tab3 cpr.bits3 (fun HT_ HW_ => ?_)
  generalize (w.alloc (.cells #[.int .i64 0, .bool false, .bool false, .int .i64 0, .int .i64 0] 50)).drew = W at *
  refine pure_ (i := 0) (N := some 14) (v := ?_) (a' := ?_) #[true, false, false, false, false, false, false, false, false, false, false, false, false, false, false, false] rfl rfl (any_of HT_.out (by kernel_rfl)) (fun _ _ _ h => h) (Or.inl ⟨by rfl, ?_⟩) ?_ ?_
  rotate_left
  · intro w'
    go_simp
    with_reducible rfl
  rotate_left
  · simp only [Act.put, List.setIfInBounds_toArray, List.set_cons_zero, List.set_cons_succ, i64_w, i32_w]
    rfl
  refine pure_ (i := 5) (N := some 19) (v := ?_) (a' := ?_) #[true, false, false, false, false, true, false, false, false, false, false, false, false, false, false, false] rfl rfl (any_of HT_.out (by kernel_rfl)) (fun _ _ _ h => h) (Or.inl ⟨by rfl, ?_⟩) ?_ ?_
  rotate_left
  · intro w'
    go_simp
    with_reducible rfl
  rotate_left
  · simp only [Act.put, List.setIfInBounds_toArray, List.set_cons_zero, List.set_cons_succ, i64_w, i32_w]
    rfl
  refine pure_ (i := 9) (N := some 23) (v := ?_) (a' := ?_) #[true, false, false, false, false, true, false, false, false, true, false, false, false, false, false, false] rfl rfl (any_of HT_.out (by kernel_rfl)) (fun _ _ _ h => h) (Or.inl ⟨by rfl, ?_⟩) ?_ ?_
  rotate_left
  · intro w'
    go_simp
    with_reducible rfl
  rotate_left
  · simp only [Act.put, List.setIfInBounds_toArray, List.set_cons_zero, List.set_cons_succ, i64_w, i32_w]
    rfl
  refine take_ (i := 1) (N := some 15) (v := ?_) (a' := ?_) #[true, true, false, false, false, true, false, false, false, true, false, false, false, false, false, false] rfl rfl (take_ofW HT_.out HW_.out (by kernel_rfl)) (fun _ _ _ h => h) (Or.inl ⟨by rfl, ?_⟩) hHeld ?_ ?_
  rotate_left
  · rintro w' s0
    go_simp
    with_reducible rfl
  rotate_left
  · simp only [Act.put, List.setIfInBounds_toArray, List.set_cons_zero, List.set_cons_succ, i64_w, i32_w]
    rfl
  refine pure_ (i := 2) (N := some 16) (v := ?_) (a' := ?_) #[true, true, true, false, false, true, false, false, false, true, false, false, false, false, false, false] rfl rfl (any_of HT_.out (by kernel_rfl)) (fun _ _ _ h => h) (Or.inl ⟨by rfl, ?_⟩) ?_ ?_
  rotate_left
  · intro w'
    go_simp
    with_reducible rfl
  rotate_left
  · simp only [Act.put, List.setIfInBounds_toArray, List.set_cons_zero, List.set_cons_succ, i64_w, i32_w]
    rfl
  refine pure_ (i := 3) (N := some 17) (v := ?_) (a' := ?_) #[true, true, true, true, false, true, false, false, false, true, false, false, false, false, false, false] rfl rfl (any_of HT_.out (by kernel_rfl)) (fun _ _ _ h => h) (Or.inl ⟨by rfl, ?_⟩) ?_ ?_
  rotate_left
  · intro w'
    go_simp
    with_reducible rfl
  rotate_left
  · simp only [Act.put, List.setIfInBounds_toArray, List.set_cons_zero, List.set_cons_succ, i64_w, i32_w]
    rfl
  refine pure_ (i := 4) (N := some 18) (v := ?_) (a' := ?_) #[true, true, true, true, true, true, false, false, false, true, false, false, false, false, false, false] rfl rfl (any_of HT_.out (by kernel_rfl)) (fun _ _ _ h => h) (Or.inl ⟨by rfl, ?_⟩) ?_ ?_
  rotate_left
  · intro w'
    go_simp
    with_reducible rfl
  rotate_left
  · simp only [Act.put, List.setIfInBounds_toArray, List.set_cons_zero, List.set_cons_succ, i64_w, i32_w]
    rfl
  refine take_ (i := 6) (N := some 20) (v := ?_) (a' := ?_) #[true, true, true, true, true, true, true, false, false, true, false, false, false, false, false, false] rfl rfl (take_ofW HT_.out HW_.out (by kernel_rfl)) (fun _ _ _ h => h) (Or.inl ⟨by rfl, ?_⟩) hHeld ?_ ?_
  rotate_left
  · rintro w' s0
    go_simp
    with_reducible rfl
  rotate_left
  · simp only [Act.put, List.setIfInBounds_toArray, List.set_cons_zero, List.set_cons_succ, i64_w, i32_w]
    rfl
  refine pure_ (i := 7) (N := some 21) (v := ?_) (a' := ?_) #[true, true, true, true, true, true, true, true, false, true, false, false, false, false, false, false] rfl rfl (any_of HT_.out (by kernel_rfl)) (fun _ _ _ h => h) (Or.inl ⟨by rfl, ?_⟩) ?_ ?_
  rotate_left
  · intro w'
    go_simp
    with_reducible rfl
  rotate_left
  · simp only [Act.put, List.setIfInBounds_toArray, List.set_cons_zero, List.set_cons_succ, i64_w, i32_w]
    rfl
  refine pure_ (i := 8) (N := some 22) (v := ?_) (a' := ?_) #[true, true, true, true, true, true, true, true, true, true, false, false, false, false, false, false] rfl rfl (any_of HT_.out (by kernel_rfl)) (fun _ _ _ h => h) (Or.inl ⟨by rfl, ?_⟩) ?_ ?_
  rotate_left
  · intro w'
    go_simp
    with_reducible rfl
  rotate_left
  · simp only [Act.put, List.setIfInBounds_toArray, List.set_cons_zero, List.set_cons_succ, i64_w, i32_w]
    rfl
  refine take_ (i := 10) (N := some 24) (v := ?_) (a' := ?_) #[true, true, true, true, true, true, true, true, true, true, true, false, false, false, false, false] rfl rfl (take_ofW HT_.out HW_.out (by kernel_rfl)) (fun _ _ _ h => h) (Or.inl ⟨by rfl, ?_⟩) hHeld ?_ ?_
  rotate_left
  · rintro w' s0
    go_simp
    with_reducible rfl
  rotate_left
  · simp only [Act.put, List.setIfInBounds_toArray, List.set_cons_zero, List.set_cons_succ, i64_w, i32_w]
    rfl
  refine pure_ (i := 11) (N := some 25) (v := ?_) (a' := ?_) #[true, true, true, true, true, true, true, true, true, true, true, true, false, false, false, false] rfl rfl (any_of HT_.out (by kernel_rfl)) (fun _ _ _ h => h) (Or.inl ⟨by rfl, ?_⟩) ?_ ?_
  rotate_left
  · intro w'
    go_simp
    with_reducible rfl
  rotate_left
  · simp only [Act.put, List.setIfInBounds_toArray, List.set_cons_zero, List.set_cons_succ, i64_w, i32_w]
    rfl
  refine pure_ (i := 12) (N := some 26) (v := ?_) (a' := ?_) #[true, true, true, true, true, true, true, true, true, true, true, true, true, false, false, false] rfl rfl (any_of HT_.out (by kernel_rfl)) (fun _ _ _ h => h) (Or.inl ⟨by rfl, ?_⟩) ?_ ?_
  rotate_left
  · intro w'
    go_simp
    with_reducible rfl
  rotate_left
  · simp only [Act.put, List.setIfInBounds_toArray, List.set_cons_zero, List.set_cons_succ, i64_w, i32_w]
    rfl
  refine pure_ (i := 13) (N := some 27) (v := ?_) (a' := ?_) #[true, true, true, true, true, true, true, true, true, true, true, true, true, true, false, false] rfl rfl (any_of HT_.out (by kernel_rfl)) (fun _ _ _ h => h) (Or.inl ⟨by rfl, ?_⟩) ?_ ?_
  rotate_left
  · intro w'
    go_simp
    with_reducible rfl
  rotate_left
  · simp only [Act.put, List.setIfInBounds_toArray, List.set_cons_zero, List.set_cons_succ, i64_w, i32_w]
    rfl
  refine one_ (i := 14) (N := some 5) #[true, true, true, true, true, true, true, true, true, true, true, true, true, true, true, false] rfl rfl (one_of HT_.out (by kernel_rfl)) (by decide) (fun K hK => ?_)
  refine event_step (v := .pointer (some ⟨W.heap.size, 0, none⟩)) (w1 := W.alloc (.cells #[.int .i64 0, .bool false, .bool false, .int .i64 0, .int .i64 0] 50)) (by rfl) (by first | (go_simp; done) | (go_simp; rfl)) ?_
  refine hK.out _ _ trivial (fun hHeld => ?_)
  clear hK K
  simp only [Act.put, List.setIfInBounds_toArray, List.set_cons_zero, List.set_cons_succ]
  refine last_ (i := 15) (N := none) #[true, true, true, true, true, true, true, true, true, true, true, true, true, true, true, true] rfl rfl (one_of HT_.out (by kernel_rfl)) (by decide) (fun K hK => ?_)
  refine skip_ (w1 := ?_) (by rfl) rfl ?_ ?_
  rotate_left
  · go_simp
    rfl
  refine hK.out _ _ ?_
  clear hK K
  refine done_ (done_of HT_.out (by kernel_rfl)) ?_
  have hlt : w.heap.size < W.heap.size := blk_lt hz
  obtain ⟨k0, k1, k2_, k3, k4⟩ := laid5 hz
  obtain ⟨o0, o1, o2, o3, o4⟩ := open5 hz
  have hlt2 : w.heap.size < (((((W.setCell ⟨w.heap.size, 0, none⟩ (.int .i64 m)).setCell ⟨w.heap.size, 1, none⟩ (.bool f)).setCell ⟨w.heap.size, 2, none⟩ (.bool la)).setCell ⟨w.heap.size, 3, none⟩ (.int .i64 V)).setCell ⟨w.heap.size, 4, none⟩ (.int .i64 V)).heap.size := by simpa [World.size_setCell] using hlt
  have HF := Lib.hid (show ((((((W.setCell ⟨w.heap.size, 0, none⟩ (.int .i64 m)).setCell ⟨w.heap.size, 1, none⟩ (.bool f)).setCell ⟨w.heap.size, 2, none⟩ (.bool la)).setCell ⟨w.heap.size, 3, none⟩ (.int .i64 V)).setCell ⟨w.heap.size, 4, none⟩ (.int .i64 V)).alloc (.cells #[.int .i64 m, .bool f, .bool la, .int .i64 V, .int .i64 V] 50)).heap[w.heap.size]? = some (.cells #[(.int .i64 m), (.bool f), (.bool la), (.int .i64 V), (.int .i64 V)] 50 (0, 0)) ∧ Below w.heap.size w ((((((W.setCell ⟨w.heap.size, 0, none⟩ (.int .i64 m)).setCell ⟨w.heap.size, 1, none⟩ (.bool f)).setCell ⟨w.heap.size, 2, none⟩ (.bool la)).setCell ⟨w.heap.size, 3, none⟩ (.int .i64 V)).setCell ⟨w.heap.size, 4, none⟩ (.int .i64 V)).alloc (.cells #[.int .i64 m, .bool f, .bool la, .int .i64 V, .int .i64 V] 50)) from ⟨(Below.heap_alloc _ _ w.heap.size hlt2).trans (set5 (W := W) hz (.int .i64 m) (.bool f) (.bool la) (.int .i64 V) (.int .i64 V)), below_alloc (HB.out.trans (set5_below (Nat.le_refl _) (.int .i64 m) (.bool f) (.bool la) (.int .i64 V) (.int .i64 V))) _⟩)
  clear hz hlt2
  go_wp2_with ((go_at_call 60; go_loud ((with_reducible refine (HC1.out _).mono ?_); rintro e_ w0 ⟨rfl, rfl⟩)))
  generalize ((((((W.setCell ⟨w.heap.size, 0, none⟩ (.int .i64 m)).setCell ⟨w.heap.size, 1, none⟩ (.bool f)).setCell ⟨w.heap.size, 2, none⟩ (.bool la)).setCell ⟨w.heap.size, 3, none⟩ (.int .i64 V)).setCell ⟨w.heap.size, 4, none⟩ (.int .i64 V)).alloc (.cells #[.int .i64 m, .bool f, .bool la, .int .i64 V, .int .i64 V] 50)) = X at HF ⊢
  obtain ⟨c0, c1, c2, c3, c4⟩ := laid5 HF.out.1
  exact bodyPost_ret (v := .tuple #[.agg #[(.int .i64 m), (.bool f), (.bool la), (.int .i64 V), (.int .i64 V)], .int .i64 K1, .int .i64 0]) (by simp [results, Tryz.results59, go_sem, c0, c1, c2, c3, c4]; try rfl) rfl ⟨rfl, HF.out.2⟩
set_option maxHeartbeats 4000000 in
set_option maxRecDepth 100000 in
theorem pr_bad2 (s : ByteArray) (w : World) (c : UInt8) (r : List UInt8) (h : s.data.toList = c :: r) (hs : s.size ≤ 4294967296) (hf : c.toNat / 16 = 2) (v k : Nat) (hv : vrd 0 0 r = some (v, k)) (hv2 : vrd 0 0 (r.drop k) = none) :
    Calls Tryz.prog 59 #[.string s] w fun e w' => e = .returned (.tuple #[.agg #[(.int .i64 0), (.bool false), (.bool false), (.int .i64 0), (.int .i64 0)], .int .i64 0, .int .i64 1]) ∧ Below w.heap.size w w' := by
  have hg := get_at s 0 c r h
  obtain ⟨z1, z2, hsz, z3⟩ := str_ne h
  have hsz2 : (0 : Int) < (s.size : Int) := by omega
  have hsz3 : 1 ≤ s.size := hsz
  have hsz4 : (1 : Int) ≤ (s.size : Int) := by omega
  obtain ⟨n, hn⟩ : ∃ n, Hid (c.toNat = n) := ⟨_, Lib.hid rfl⟩
  have hn256 : n < 256 := by have := c.toNat_lt; have := hn.out; omega
  have hcn : c.toNat = n := hn.out
  rw [hcn] at hf
  obtain ⟨m, hm⟩ : ∃ m, Hid (n / 4 % 4 = m) := ⟨_, Lib.hid rfl⟩
  have hm4 : m < 1000000 := by have := hm.out; omega
  obtain ⟨f, hf'⟩ : ∃ f, Hid (decide (n % 2 = 1) = f) := ⟨_, Lib.hid rfl⟩
  obtain ⟨la, hla⟩ : ∃ la, Hid (decide (n / 2 % 2 = 1) = la) := ⟨_, Lib.hid rfl⟩
  have q1 := and3i hn256 hm.out
  have q2 : bits .and .u8 (n : Int) 1 = ((n % 2 : Nat) : Int) := and1 n hn256
  have q3 : bits .and .u8 (n : Int) 2 = ((n / 2 % 2 * 2 : Nat) : Int) := and2 n hn256
  have q6 := (i64n hm4).1
  have q7 := (i64n hm4).2
  have q8 : (((n % 2 : Nat) : Int) != 0) = f := bne_mod.trans hf'.out
  have q9 : (((n / 2 % 2 * 2 : Nat) : Int) != 0) = la := bne_mod2.trans hla.out
  obtain ⟨b1, hb1⟩ : ∃ b, b = n % 2 := ⟨_, rfl⟩
  obtain ⟨b2, hb2⟩ : ∃ b, b = n / 2 % 2 * 2 := ⟨_, rfl⟩
  rw [← hb1] at q2 q8
  rw [← hb2] at q3 q9
  clear hb1 hb2
  have hdl := drop_strD s 1
  obtain ⟨t1, ht1⟩ : ∃ t1, s.extract 1 s.size = t1 := ⟨_, rfl⟩
  have hds : t1.size ≤ 4294967296 := by rw [← ht1, ByteArray.size_extract]; omega
  rw [ht1] at hdl
  have HC1 := Lib.hid (fun W => codVarRead_any t1 W hds (some (v, k)) (by rw [hdl, h]; exact hv))
  simp only [cvr] at HC1
  have q5 : (n : Int) / 16 = 2 := q16 hf
  obtain ⟨f1, f2, f3, f4⟩ := vrd_facts _ 0 0 v k (by decide) hv
  have hrl : r.length + 1 = s.size := by have := congrArg List.length h; rw [Array.length_toList] at this; simpa using this.symm
  obtain ⟨V, hV⟩ : ∃ V, Hid (wrap64 ((v : Nat) : Int) = V) := ⟨_, Lib.hid rfl⟩
  have qV : wrap64 ((v : Nat) : Int) = V := hV.out
  have qV2 : IntKind.i64.wrap ((v : Nat) : Int) = V := (IntWalk.i64_left _).trans hV.out
  obtain ⟨K1, hK1⟩ : ∃ K1, Hid (1 + k = K1) := ⟨_, Lib.hid rfl⟩
  have qK : wrap64 (1 + (k : Int)) = (K1 : Int) := by rw [IntWalk.wrap64_in _ (by omega)]; have := hK1.out; omega
  have qK2 : IntKind.i64.wrap (1 + (k : Int)) = (K1 : Int) := by rw [IntWalk.i64_in _ (by omega)]; have := hK1.out; omega
  have hk1 : (K1 : Int) ≤ (s.size : Int) := by have := hK1.out; omega
  have hk2 : K1 ≤ s.size := by omega
  have hk3 : 0 ≤ (K1 : Int) := by omega
  have hdl2 := drop_strD s K1
  obtain ⟨t2, ht2⟩ : ∃ t2, s.extract K1 s.size = t2 := ⟨_, rfl⟩
  have hds2 : t2.size ≤ 4294967296 := by rw [← ht2, ByteArray.size_extract]; omega
  rw [ht2] at hdl2
  have HC2 := Lib.hid (fun W => codVarRead_any t2 W hds2 none (by rw [hdl2, h, ← hK1.out, Nat.add_comm, List.drop_succ_cons]; exact hv2))
  simp only [cvr] at HC2
  have hz := blk_drew (heap_alloc_new w (.cells #[.int .i64 0, .bool false, .bool false, .int .i64 0, .int .i64 0] 50))
  have HB := Aside0.mk (below_drew (below_alloc (Below.refl w.heap.size w) (.cells #[.int .i64 0, .bool false, .bool false, .int .i64 0, .int .i64 0] 50)))
  clear h hf hn256 hm4 hv hv2 hs hdl hds hdl2 hds2 f1 f2 f3 f4 hrl
  go_enter Tryz.func59, Tryz.ntmps59
  go_wp2
  refine start_ (n := 16) (S := fun w' => True) (ds := [15]) #[false, false, false, false, false, false, false, false, false, false, false, false, false, false, false, false] (by kernel_rfl) rfl rfl trivial (fun hHeld => ?_)
  refine with_tabW cpr.tab3 cpr.bits3 (fun HT_ HW_ => ?_)
  generalize (w.alloc (.cells #[.int .i64 0, .bool false, .bool false, .int .i64 0, .int .i64 0] 50)).drew = W at *
  refine pure_ (i := 0) (N := some 14) (v := ?_) (a' := ?_) #[true, false, false, false, false, false, false, false, false, false, false, false, false, false, false, false] rfl rfl (any_of HT_.out (by kernel_rfl)) (fun _ _ _ h => h) (Or.inl ⟨by rfl, ?_⟩) ?_ ?_
  rotate_left
  · intro w'
    go_simp
    with_reducible rfl
  rotate_left
  · simp only [Act.put, List.setIfInBounds_toArray, List.set_cons_zero, List.set_cons_succ, i64_w, i32_w]
    rfl
  refine pure_ (i := 5) (N := some 19) (v := ?_) (a' := ?_) #[true, false, false, false, false, true, false, false, false, false, false, false, false, false, false, false] rfl rfl (any_of HT_.out (by kernel_rfl)) (fun _ _ _ h => h) (Or.inl ⟨by rfl, ?_⟩) ?_ ?_
  rotate_left
  · intro w'
    go_simp
    with_reducible rfl
  rotate_left
  · simp only [Act.put, List.setIfInBounds_toArray, List.set_cons_zero, List.set_cons_succ, i64_w, i32_w]
    rfl
  refine pure_ (i := 9) (N := some 23) (v := ?_) (a' := ?_) #[true, false, false, false, false, true, false, false, false, true, false, false, false, false, false, false] rfl rfl (any_of HT_.out (by kernel_rfl)) (fun _ _ _ h => h) (Or.inl ⟨by rfl, ?_⟩) ?_ ?_
  rotate_left
  · intro w'
    go_simp
    with_reducible rfl
  rotate_left
  · simp only [Act.put, List.setIfInBounds_toArray, List.set_cons_zero, List.set_cons_succ, i64_w, i32_w]
    rfl
  refine take_ (i := 1) (N := some 15) (v := ?_) (a' := ?_) #[true, true, false, false, false, true, false, false, false, true, false, false, false, false, false, false] rfl rfl (take_ofW HT_.out HW_.out (by kernel_rfl)) (fun _ _ _ h => h) (Or.inl ⟨by rfl, ?_⟩) hHeld ?_ ?_
  rotate_left
  · rintro w' s0
    go_simp
    with_reducible rfl
  rotate_left
  · simp only [Act.put, List.setIfInBounds_toArray, List.set_cons_zero, List.set_cons_succ, i64_w, i32_w]
    rfl
  refine pure_ (i := 2) (N := some 16) (v := ?_) (a' := ?_) #[true, true, true, false, false, true, false, false, false, true, false, false, false, false, false, false] rfl rfl (any_of HT_.out (by kernel_rfl)) (fun _ _ _ h => h) (Or.inl ⟨by rfl, ?_⟩) ?_ ?_
  rotate_left
  · intro w'
    go_simp
    with_reducible rfl
  rotate_left
  · simp only [Act.put, List.setIfInBounds_toArray, List.set_cons_zero, List.set_cons_succ, i64_w, i32_w]
    rfl
  refine pure_ (i := 3) (N := some 17) (v := ?_) (a' := ?_) #[true, true, true, true, false, true, false, false, false, true, false, false, false, false, false, false] rfl rfl (any_of HT_.out (by kernel_rfl)) (fun _ _ _ h => h) (Or.inl ⟨by rfl, ?_⟩) ?_ ?_
  rotate_left
  · intro w'
    go_simp
    with_reducible rfl
  rotate_left
  · simp only [Act.put, List.setIfInBounds_toArray, List.set_cons_zero, List.set_cons_succ, i64_w, i32_w]
    rfl
  refine pure_ (i := 4) (N := some 18) (v := ?_) (a' := ?_) #[true, true, true, true, true, true, false, false, false, true, false, false, false, false, false, false] rfl rfl (any_of HT_.out (by kernel_rfl)) (fun _ _ _ h => h) (Or.inl ⟨by rfl, ?_⟩) ?_ ?_
  rotate_left
  · intro w'
    go_simp
    with_reducible rfl
  rotate_left
  · simp only [Act.put, List.setIfInBounds_toArray, List.set_cons_zero, List.set_cons_succ, i64_w, i32_w]
    rfl
  refine take_ (i := 6) (N := some 20) (v := ?_) (a' := ?_) #[true, true, true, true, true, true, true, false, false, true, false, false, false, false, false, false] rfl rfl (take_ofW HT_.out HW_.out (by kernel_rfl)) (fun _ _ _ h => h) (Or.inl ⟨by rfl, ?_⟩) hHeld ?_ ?_
  rotate_left
  · rintro w' s0
    go_simp
    with_reducible rfl
  rotate_left
  · simp only [Act.put, List.setIfInBounds_toArray, List.set_cons_zero, List.set_cons_succ, i64_w, i32_w]
    rfl
  refine pure_ (i := 7) (N := some 21) (v := ?_) (a' := ?_) #[true, true, true, true, true, true, true, true, false, true, false, false, false, false, false, false] rfl rfl (any_of HT_.out (by kernel_rfl)) (fun _ _ _ h => h) (Or.inl ⟨by rfl, ?_⟩) ?_ ?_
  rotate_left
  · intro w'
    go_simp
    with_reducible rfl
  rotate_left
  · simp only [Act.put, List.setIfInBounds_toArray, List.set_cons_zero, List.set_cons_succ, i64_w, i32_w]
    rfl
  refine pure_ (i := 8) (N := some 22) (v := ?_) (a' := ?_) #[true, true, true, true, true, true, true, true, true, true, false, false, false, false, false, false] rfl rfl (any_of HT_.out (by kernel_rfl)) (fun _ _ _ h => h) (Or.inl ⟨by rfl, ?_⟩) ?_ ?_
  rotate_left
  · intro w'
    go_simp
    with_reducible rfl
  rotate_left
  · simp only [Act.put, List.setIfInBounds_toArray, List.set_cons_zero, List.set_cons_succ, i64_w, i32_w]
    rfl
  refine take_ (i := 10) (N := some 24) (v := ?_) (a' := ?_) #[true, true, true, true, true, true, true, true, true, true, true, false, false, false, false, false] rfl rfl (take_ofW HT_.out HW_.out (by kernel_rfl)) (fun _ _ _ h => h) (Or.inl ⟨by rfl, ?_⟩) hHeld ?_ ?_
  rotate_left
  · rintro w' s0
    go_simp
    with_reducible rfl
  rotate_left
  · simp only [Act.put, List.setIfInBounds_toArray, List.set_cons_zero, List.set_cons_succ, i64_w, i32_w]
    rfl
  refine pure_ (i := 11) (N := some 25) (v := ?_) (a' := ?_) #[true, true, true, true, true, true, true, true, true, true, true, true, false, false, false, false] rfl rfl (any_of HT_.out (by kernel_rfl)) (fun _ _ _ h => h) (Or.inl ⟨by rfl, ?_⟩) ?_ ?_
  rotate_left
  · intro w'
    go_simp
    with_reducible rfl
  rotate_left
  · simp only [Act.put, List.setIfInBounds_toArray, List.set_cons_zero, List.set_cons_succ, i64_w, i32_w]
    rfl
  refine pure_ (i := 12) (N := some 26) (v := ?_) (a' := ?_) #[true, true, true, true, true, true, true, true, true, true, true, true, true, false, false, false] rfl rfl (any_of HT_.out (by kernel_rfl)) (fun _ _ _ h => h) (Or.inl ⟨by rfl, ?_⟩) ?_ ?_
  rotate_left
  · intro w'
    go_simp
    with_reducible rfl
  rotate_left
  · simp only [Act.put, List.setIfInBounds_toArray, List.set_cons_zero, List.set_cons_succ, i64_w, i32_w]
    rfl
  refine pure_ (i := 13) (N := some 27) (v := ?_) (a' := ?_) #[true, true, true, true, true, true, true, true, true, true, true, true, true, true, false, false] rfl rfl (any_of HT_.out (by kernel_rfl)) (fun _ _ _ h => h) (Or.inl ⟨by rfl, ?_⟩) ?_ ?_
  rotate_left
  · intro w'
    go_simp
    with_reducible rfl
  rotate_left
  · simp only [Act.put, List.setIfInBounds_toArray, List.set_cons_zero, List.set_cons_succ, i64_w, i32_w]
    rfl
  refine one_ (i := 14) (N := some 5) #[true, true, true, true, true, true, true, true, true, true, true, true, true, true, true, false] rfl rfl (one_of HT_.out (by kernel_rfl)) (by decide) (fun K hK => ?_)
  refine event_step (v := .pointer (some ⟨W.heap.size, 0, none⟩)) (w1 := W.alloc (.cells #[.int .i64 0, .bool false, .bool false, .int .i64 0, .int .i64 0] 50)) (by rfl) (by first | (go_simp; done) | (go_simp; rfl)) ?_
  refine hK.out _ _ trivial (fun hHeld => ?_)
  clear hK K
  simp only [Act.put, List.setIfInBounds_toArray, List.set_cons_zero, List.set_cons_succ]
  refine last_ (i := 15) (N := none) #[true, true, true, true, true, true, true, true, true, true, true, true, true, true, true, true] rfl rfl (one_of HT_.out (by kernel_rfl)) (by decide) (fun K hK => ?_)
  refine skip_ (w1 := ?_) (by rfl) rfl ?_ ?_
  rotate_left
  · go_simp
    rfl
  refine hK.out _ _ ?_
  clear hK K
  refine done_ (done_of HT_.out (by kernel_rfl)) ?_
  have hlt : w.heap.size < W.heap.size := blk_lt hz
  obtain ⟨k0, k1, k2_, k3, k4⟩ := laid5 hz
  obtain ⟨o0, o1, o2, o3, o4⟩ := open5 hz
  have hlt2 : w.heap.size < (((((W.setCell ⟨w.heap.size, 0, none⟩ (.int .i64 0)).setCell ⟨w.heap.size, 1, none⟩ (.bool false)).setCell ⟨w.heap.size, 2, none⟩ (.bool false)).setCell ⟨w.heap.size, 3, none⟩ (.int .i64 0)).setCell ⟨w.heap.size, 4, none⟩ (.int .i64 0)).heap.size := by simpa [World.size_setCell] using hlt
  have HF := Lib.hid (show ((((((W.setCell ⟨w.heap.size, 0, none⟩ (.int .i64 0)).setCell ⟨w.heap.size, 1, none⟩ (.bool false)).setCell ⟨w.heap.size, 2, none⟩ (.bool false)).setCell ⟨w.heap.size, 3, none⟩ (.int .i64 0)).setCell ⟨w.heap.size, 4, none⟩ (.int .i64 0)).alloc (.cells #[.int .i64 m, .bool f, .bool la, .int .i64 V, .int .i64 V] 50)).heap[w.heap.size]? = some (.cells #[(.int .i64 0), (.bool false), (.bool false), (.int .i64 0), (.int .i64 0)] 50 (0, 0)) ∧ Below w.heap.size w ((((((W.setCell ⟨w.heap.size, 0, none⟩ (.int .i64 0)).setCell ⟨w.heap.size, 1, none⟩ (.bool false)).setCell ⟨w.heap.size, 2, none⟩ (.bool false)).setCell ⟨w.heap.size, 3, none⟩ (.int .i64 0)).setCell ⟨w.heap.size, 4, none⟩ (.int .i64 0)).alloc (.cells #[.int .i64 m, .bool f, .bool la, .int .i64 V, .int .i64 V] 50)) from ⟨(Below.heap_alloc _ _ w.heap.size hlt2).trans (set5 (W := W) hz (.int .i64 0) (.bool false) (.bool false) (.int .i64 0) (.int .i64 0)), below_alloc (HB.out.trans (set5_below (Nat.le_refl _) (.int .i64 0) (.bool false) (.bool false) (.int .i64 0) (.int .i64 0))) _⟩)
  clear hz hlt2
  go_wp2_with ((go_at_call 60; (first | ((with_reducible refine (HC1.out _).mono ?_); rintro e_ w0 ⟨rfl, rfl⟩) | ((with_reducible refine (HC2.out _).mono ?_); rintro e_ w0 ⟨rfl, rfl⟩))))
  generalize ((((((W.setCell ⟨w.heap.size, 0, none⟩ (.int .i64 0)).setCell ⟨w.heap.size, 1, none⟩ (.bool false)).setCell ⟨w.heap.size, 2, none⟩ (.bool false)).setCell ⟨w.heap.size, 3, none⟩ (.int .i64 0)).setCell ⟨w.heap.size, 4, none⟩ (.int .i64 0)).alloc (.cells #[.int .i64 m, .bool f, .bool la, .int .i64 V, .int .i64 V] 50)) = X at HF ⊢
  obtain ⟨c0, c1, c2, c3, c4⟩ := laid5 HF.out.1
  exact bodyPost_ret (v := .tuple #[.agg #[(.int .i64 0), (.bool false), (.bool false), (.int .i64 0), (.int .i64 0)], .int .i64 0, .int .i64 1]) (by simp [results, Tryz.results59, go_sem, c0, c1, c2, c3, c4]; try rfl) rfl ⟨rfl, HF.out.2⟩
set_option maxHeartbeats 4000000 in
set_option maxRecDepth 100000 in
theorem pr_2 (s : ByteArray) (w : World) (c : UInt8) (r : List UInt8) (h : s.data.toList = c :: r) (hs : s.size ≤ 4294967296) (hf : c.toNat / 16 = 2) (v k v2 k2 : Nat) (hv : vrd 0 0 r = some (v, k)) (hv2 : vrd 0 0 (r.drop k) = some (v2, k2)) :
    Calls Tryz.prog 59 #[.string s] w fun e w' => e = .returned (.tuple #[.agg #[(.int .i64 (c.toNat / 4 % 4 : Nat)), (.bool (c.toNat % 2 = 1)), (.bool (c.toNat / 2 % 2 = 1)), (.int .i64 (wrap64 (v : Nat))), (.int .i64 (wrap64 (v2 : Nat)))], .int .i64 (1 + k + k2 : Nat), .int .i64 0]) ∧ Below w.heap.size w w' := by
  have hg := get_at s 0 c r h
  obtain ⟨z1, z2, hsz, z3⟩ := str_ne h
  have hsz2 : (0 : Int) < (s.size : Int) := by omega
  have hsz3 : 1 ≤ s.size := hsz
  have hsz4 : (1 : Int) ≤ (s.size : Int) := by omega
  obtain ⟨n, hn⟩ : ∃ n, Hid (c.toNat = n) := ⟨_, Lib.hid rfl⟩
  have hn256 : n < 256 := by have := c.toNat_lt; have := hn.out; omega
  have hcn : c.toNat = n := hn.out
  rw [hcn] at hf ⊢
  obtain ⟨m, hm⟩ : ∃ m, Hid (n / 4 % 4 = m) := ⟨_, Lib.hid rfl⟩
  have hm4 : m < 1000000 := by have := hm.out; omega
  obtain ⟨f, hf'⟩ : ∃ f, Hid (decide (n % 2 = 1) = f) := ⟨_, Lib.hid rfl⟩
  obtain ⟨la, hla⟩ : ∃ la, Hid (decide (n / 2 % 2 = 1) = la) := ⟨_, Lib.hid rfl⟩
  rw [hm.out, hf'.out, hla.out]
  have q1 := and3i hn256 hm.out
  have q2 : bits .and .u8 (n : Int) 1 = ((n % 2 : Nat) : Int) := and1 n hn256
  have q3 : bits .and .u8 (n : Int) 2 = ((n / 2 % 2 * 2 : Nat) : Int) := and2 n hn256
  have q6 := (i64n hm4).1
  have q7 := (i64n hm4).2
  have q8 : (((n % 2 : Nat) : Int) != 0) = f := bne_mod.trans hf'.out
  have q9 : (((n / 2 % 2 * 2 : Nat) : Int) != 0) = la := bne_mod2.trans hla.out
  obtain ⟨b1, hb1⟩ : ∃ b, b = n % 2 := ⟨_, rfl⟩
  obtain ⟨b2, hb2⟩ : ∃ b, b = n / 2 % 2 * 2 := ⟨_, rfl⟩
  rw [← hb1] at q2 q8
  rw [← hb2] at q3 q9
  clear hb1 hb2
  have hdl := drop_strD s 1
  obtain ⟨t1, ht1⟩ : ∃ t1, s.extract 1 s.size = t1 := ⟨_, rfl⟩
  have hds : t1.size ≤ 4294967296 := by rw [← ht1, ByteArray.size_extract]; omega
  rw [ht1] at hdl
  have HC1 := Lib.hid (fun W => codVarRead_any t1 W hds (some (v, k)) (by rw [hdl, h]; exact hv))
  simp only [cvr] at HC1
  have q5 : (n : Int) / 16 = 2 := q16 hf
  obtain ⟨f1, f2, f3, f4⟩ := vrd_facts _ 0 0 v k (by decide) hv
  have hrl : r.length + 1 = s.size := by have := congrArg List.length h; rw [Array.length_toList] at this; simpa using this.symm
  obtain ⟨V, hV⟩ : ∃ V, Hid (wrap64 ((v : Nat) : Int) = V) := ⟨_, Lib.hid rfl⟩
  have qV : wrap64 ((v : Nat) : Int) = V := hV.out
  have qV2 : IntKind.i64.wrap ((v : Nat) : Int) = V := (IntWalk.i64_left _).trans hV.out
  rw [hV.out]
  obtain ⟨K1, hK1⟩ : ∃ K1, Hid (1 + k = K1) := ⟨_, Lib.hid rfl⟩
  have qK : wrap64 (1 + (k : Int)) = (K1 : Int) := by rw [IntWalk.wrap64_in _ (by omega)]; have := hK1.out; omega
  have qK2 : IntKind.i64.wrap (1 + (k : Int)) = (K1 : Int) := by rw [IntWalk.i64_in _ (by omega)]; have := hK1.out; omega
  have hk1 : (K1 : Int) ≤ (s.size : Int) := by have := hK1.out; omega
  have hk2 : K1 ≤ s.size := by omega
  have hk3 : 0 ≤ (K1 : Int) := by omega
  have hdl2 := drop_strD s K1
  obtain ⟨t2, ht2⟩ : ∃ t2, s.extract K1 s.size = t2 := ⟨_, rfl⟩
  have hds2 : t2.size ≤ 4294967296 := by rw [← ht2, ByteArray.size_extract]; omega
  rw [ht2] at hdl2
  have HC2 := Lib.hid (fun W => codVarRead_any t2 W hds2 (some (v2, k2)) (by rw [hdl2, h, ← hK1.out, Nat.add_comm, List.drop_succ_cons]; exact hv2))
  simp only [cvr] at HC2
  obtain ⟨g1, g2, g3, g4⟩ := vrd_facts _ 0 0 v2 k2 (by decide) hv2
  obtain ⟨V2, hV2⟩ : ∃ V, Hid (wrap64 ((v2 : Nat) : Int) = V) := ⟨_, Lib.hid rfl⟩
  have qW : wrap64 ((v2 : Nat) : Int) = V2 := hV2.out
  have qW2 : IntKind.i64.wrap ((v2 : Nat) : Int) = V2 := (IntWalk.i64_left _).trans hV2.out
  rw [hV2.out]
  obtain ⟨K2, hK2⟩ : ∃ K2, Hid (K1 + k2 = K2) := ⟨_, Lib.hid rfl⟩
  have qL : wrap64 ((K1 : Int) + (k2 : Int)) = (K2 : Int) := by rw [IntWalk.wrap64_in _ (by have := hK1.out; omega)]; have := hK2.out; omega
  have qL2 : IntKind.i64.wrap ((K1 : Int) + (k2 : Int)) = (K2 : Int) := by rw [IntWalk.i64_in _ (by have := hK1.out; omega)]; have := hK2.out; omega
  rw [hK1.out, hK2.out]
  have hz := blk_drew (heap_alloc_new w (.cells #[.int .i64 0, .bool false, .bool false, .int .i64 0, .int .i64 0] 50))
  have HB := Aside0.mk (below_drew (below_alloc (Below.refl w.heap.size w) (.cells #[.int .i64 0, .bool false, .bool false, .int .i64 0, .int .i64 0] 50)))
  clear h hf hn256 hm4 hv hv2 hs hdl hds hdl2 hds2 f1 f2 f3 f4 g1 g2 g3 g4 hrl
  go_enter Tryz.func59, Tryz.ntmps59
  go_wp2
  refine start_ (n := 16) (S := fun w' => True) (ds := [15]) #[false, false, false, false, false, false, false, false, false, false, false, false, false, false, false, false] (by kernel_rfl) rfl rfl trivial (fun hHeld => ?_)
  refine with_tabW cpr.tab3 cpr.bits3 (fun HT_ HW_ => ?_)
  generalize (w.alloc (.cells #[.int .i64 0, .bool false, .bool false, .int .i64 0, .int .i64 0] 50)).drew = W at *
  refine pure_ (i := 0) (N := some 14) (v := ?_) (a' := ?_) #[true, false, false, false, false, false, false, false, false, false, false, false, false, false, false, false] rfl rfl (any_of HT_.out (by kernel_rfl)) (fun _ _ _ h => h) (Or.inl ⟨by rfl, ?_⟩) ?_ ?_
  rotate_left
  · intro w'
    go_simp
    with_reducible rfl
  rotate_left
  · simp only [Act.put, List.setIfInBounds_toArray, List.set_cons_zero, List.set_cons_succ, i64_w, i32_w]
    rfl
  refine pure_ (i := 5) (N := some 19) (v := ?_) (a' := ?_) #[true, false, false, false, false, true, false, false, false, false, false, false, false, false, false, false] rfl rfl (any_of HT_.out (by kernel_rfl)) (fun _ _ _ h => h) (Or.inl ⟨by rfl, ?_⟩) ?_ ?_
  rotate_left
  · intro w'
    go_simp
    with_reducible rfl
  rotate_left
  · simp only [Act.put, List.setIfInBounds_toArray, List.set_cons_zero, List.set_cons_succ, i64_w, i32_w]
    rfl
  refine pure_ (i := 9) (N := some 23) (v := ?_) (a' := ?_) #[true, false, false, false, false, true, false, false, false, true, false, false, false, false, false, false] rfl rfl (any_of HT_.out (by kernel_rfl)) (fun _ _ _ h => h) (Or.inl ⟨by rfl, ?_⟩) ?_ ?_
  rotate_left
  · intro w'
    go_simp
    with_reducible rfl
  rotate_left
  · simp only [Act.put, List.setIfInBounds_toArray, List.set_cons_zero, List.set_cons_succ, i64_w, i32_w]
    rfl
  refine take_ (i := 1) (N := some 15) (v := ?_) (a' := ?_) #[true, true, false, false, false, true, false, false, false, true, false, false, false, false, false, false] rfl rfl (take_ofW HT_.out HW_.out (by kernel_rfl)) (fun _ _ _ h => h) (Or.inl ⟨by rfl, ?_⟩) hHeld ?_ ?_
  rotate_left
  · rintro w' s0
    go_simp
    with_reducible rfl
  rotate_left
  · simp only [Act.put, List.setIfInBounds_toArray, List.set_cons_zero, List.set_cons_succ, i64_w, i32_w]
    rfl
  refine pure_ (i := 2) (N := some 16) (v := ?_) (a' := ?_) #[true, true, true, false, false, true, false, false, false, true, false, false, false, false, false, false] rfl rfl (any_of HT_.out (by kernel_rfl)) (fun _ _ _ h => h) (Or.inl ⟨by rfl, ?_⟩) ?_ ?_
  rotate_left
  · intro w'
    go_simp
    with_reducible rfl
  rotate_left
  · simp only [Act.put, List.setIfInBounds_toArray, List.set_cons_zero, List.set_cons_succ, i64_w, i32_w]
    rfl
  refine pure_ (i := 3) (N := some 17) (v := ?_) (a' := ?_) #[true, true, true, true, false, true, false, false, false, true, false, false, false, false, false, false] rfl rfl (any_of HT_.out (by kernel_rfl)) (fun _ _ _ h => h) (Or.inl ⟨by rfl, ?_⟩) ?_ ?_
  rotate_left
  · intro w'
    go_simp
    with_reducible rfl
  rotate_left
  · simp only [Act.put, List.setIfInBounds_toArray, List.set_cons_zero, List.set_cons_succ, i64_w, i32_w]
    rfl
  refine pure_ (i := 4) (N := some 18) (v := ?_) (a' := ?_) #[true, true, true, true, true, true, false, false, false, true, false, false, false, false, false, false] rfl rfl (any_of HT_.out (by kernel_rfl)) (fun _ _ _ h => h) (Or.inl ⟨by rfl, ?_⟩) ?_ ?_
  rotate_left
  · intro w'
    go_simp
    with_reducible rfl
  rotate_left
  · simp only [Act.put, List.setIfInBounds_toArray, List.set_cons_zero, List.set_cons_succ, i64_w, i32_w]
    rfl
  refine take_ (i := 6) (N := some 20) (v := ?_) (a' := ?_) #[true, true, true, true, true, true, true, false, false, true, false, false, false, false, false, false] rfl rfl (take_ofW HT_.out HW_.out (by kernel_rfl)) (fun _ _ _ h => h) (Or.inl ⟨by rfl, ?_⟩) hHeld ?_ ?_
  rotate_left
  · rintro w' s0
    go_simp
    with_reducible rfl
  rotate_left
  · simp only [Act.put, List.setIfInBounds_toArray, List.set_cons_zero, List.set_cons_succ, i64_w, i32_w]
    rfl
  refine pure_ (i := 7) (N := some 21) (v := ?_) (a' := ?_) #[true, true, true, true, true, true, true, true, false, true, false, false, false, false, false, false] rfl rfl (any_of HT_.out (by kernel_rfl)) (fun _ _ _ h => h) (Or.inl ⟨by rfl, ?_⟩) ?_ ?_
  rotate_left
  · intro w'
    go_simp
    with_reducible rfl
  rotate_left
  · simp only [Act.put, List.setIfInBounds_toArray, List.set_cons_zero, List.set_cons_succ, i64_w, i32_w]
    rfl
  refine pure_ (i := 8) (N := some 22) (v := ?_) (a' := ?_) #[true, true, true, true, true, true, true, true, true, true, false, false, false, false, false, false] rfl rfl (any_of HT_.out (by kernel_rfl)) (fun _ _ _ h => h) (Or.inl ⟨by rfl, ?_⟩) ?_ ?_
  rotate_left
  · intro w'
    go_simp
    with_reducible rfl
  rotate_left
  · simp only [Act.put, List.setIfInBounds_toArray, List.set_cons_zero, List.set_cons_succ, i64_w, i32_w]
    rfl
  refine take_ (i := 10) (N := some 24) (v := ?_) (a' := ?_) #[true, true, true, true, true, true, true, true, true, true, true, false, false, false, false, false] rfl rfl (take_ofW HT_.out HW_.out (by kernel_rfl)) (fun _ _ _ h => h) (Or.inl ⟨by rfl, ?_⟩) hHeld ?_ ?_
  rotate_left
  · rintro w' s0
    go_simp
    with_reducible rfl
  rotate_left
  · simp only [Act.put, List.setIfInBounds_toArray, List.set_cons_zero, List.set_cons_succ, i64_w, i32_w]
    rfl
  refine pure_ (i := 11) (N := some 25) (v := ?_) (a' := ?_) #[true, true, true, true, true, true, true, true, true, true, true, true, false, false, false, false] rfl rfl (any_of HT_.out (by kernel_rfl)) (fun _ _ _ h => h) (Or.inl ⟨by rfl, ?_⟩) ?_ ?_
  rotate_left
  · intro w'
    go_simp
    with_reducible rfl
  rotate_left
  · simp only [Act.put, List.setIfInBounds_toArray, List.set_cons_zero, List.set_cons_succ, i64_w, i32_w]
    rfl
  refine pure_ (i := 12) (N := some 26) (v := ?_) (a' := ?_) #[true, true, true, true, true, true, true, true, true, true, true, true, true, false, false, false] rfl rfl (any_of HT_.out (by kernel_rfl)) (fun _ _ _ h => h) (Or.inl ⟨by rfl, ?_⟩) ?_ ?_
  rotate_left
  · intro w'
    go_simp
    with_reducible rfl
  rotate_left
  · simp only [Act.put, List.setIfInBounds_toArray, List.set_cons_zero, List.set_cons_succ, i64_w, i32_w]
    rfl
  refine pure_ (i := 13) (N := some 27) (v := ?_) (a' := ?_) #[true, true, true, true, true, true, true, true, true, true, true, true, true, true, false, false] rfl rfl (any_of HT_.out (by kernel_rfl)) (fun _ _ _ h => h) (Or.inl ⟨by rfl, ?_⟩) ?_ ?_
  rotate_left
  · intro w'
    go_simp
    with_reducible rfl
  rotate_left
  · simp only [Act.put, List.setIfInBounds_toArray, List.set_cons_zero, List.set_cons_succ, i64_w, i32_w]
    rfl
  refine one_ (i := 14) (N := some 5) #[true, true, true, true, true, true, true, true, true, true, true, true, true, true, true, false] rfl rfl (one_of HT_.out (by kernel_rfl)) (by decide) (fun K hK => ?_)
  refine event_step (v := .pointer (some ⟨W.heap.size, 0, none⟩)) (w1 := W.alloc (.cells #[.int .i64 0, .bool false, .bool false, .int .i64 0, .int .i64 0] 50)) (by rfl) (by first | (go_simp; done) | (go_simp; rfl)) ?_
  refine hK.out _ _ trivial (fun hHeld => ?_)
  clear hK K
  simp only [Act.put, List.setIfInBounds_toArray, List.set_cons_zero, List.set_cons_succ]
  refine last_ (i := 15) (N := none) #[true, true, true, true, true, true, true, true, true, true, true, true, true, true, true, true] rfl rfl (one_of HT_.out (by kernel_rfl)) (by decide) (fun K hK => ?_)
  refine skip_ (w1 := ?_) (by rfl) rfl ?_ ?_
  rotate_left
  · go_simp
    rfl
  refine hK.out _ _ ?_
  clear hK K
  refine done_ (done_of HT_.out (by kernel_rfl)) ?_
  have hlt : w.heap.size < W.heap.size := blk_lt hz
  obtain ⟨k0, k1, k2_, k3, k4⟩ := laid5 hz
  obtain ⟨o0, o1, o2, o3, o4⟩ := open5 hz
  have hlt2 : w.heap.size < (((((W.setCell ⟨w.heap.size, 0, none⟩ (.int .i64 m)).setCell ⟨w.heap.size, 1, none⟩ (.bool f)).setCell ⟨w.heap.size, 2, none⟩ (.bool la)).setCell ⟨w.heap.size, 3, none⟩ (.int .i64 V)).setCell ⟨w.heap.size, 4, none⟩ (.int .i64 V2)).heap.size := by simpa [World.size_setCell] using hlt
  have HF := Lib.hid (show ((((((W.setCell ⟨w.heap.size, 0, none⟩ (.int .i64 m)).setCell ⟨w.heap.size, 1, none⟩ (.bool f)).setCell ⟨w.heap.size, 2, none⟩ (.bool la)).setCell ⟨w.heap.size, 3, none⟩ (.int .i64 V)).setCell ⟨w.heap.size, 4, none⟩ (.int .i64 V2)).alloc (.cells #[.int .i64 m, .bool f, .bool la, .int .i64 V, .int .i64 V2] 50)).heap[w.heap.size]? = some (.cells #[(.int .i64 m), (.bool f), (.bool la), (.int .i64 V), (.int .i64 V2)] 50 (0, 0)) ∧ Below w.heap.size w ((((((W.setCell ⟨w.heap.size, 0, none⟩ (.int .i64 m)).setCell ⟨w.heap.size, 1, none⟩ (.bool f)).setCell ⟨w.heap.size, 2, none⟩ (.bool la)).setCell ⟨w.heap.size, 3, none⟩ (.int .i64 V)).setCell ⟨w.heap.size, 4, none⟩ (.int .i64 V2)).alloc (.cells #[.int .i64 m, .bool f, .bool la, .int .i64 V, .int .i64 V2] 50)) from ⟨(Below.heap_alloc _ _ w.heap.size hlt2).trans (set5 (W := W) hz (.int .i64 m) (.bool f) (.bool la) (.int .i64 V) (.int .i64 V2)), below_alloc (HB.out.trans (set5_below (Nat.le_refl _) (.int .i64 m) (.bool f) (.bool la) (.int .i64 V) (.int .i64 V2))) _⟩)
  clear hz hlt2
  go_wp2_with ((go_at_call 60; (first | ((with_reducible refine (HC1.out _).mono ?_); rintro e_ w0 ⟨rfl, rfl⟩) | ((with_reducible refine (HC2.out _).mono ?_); rintro e_ w0 ⟨rfl, rfl⟩))))
  generalize ((((((W.setCell ⟨w.heap.size, 0, none⟩ (.int .i64 m)).setCell ⟨w.heap.size, 1, none⟩ (.bool f)).setCell ⟨w.heap.size, 2, none⟩ (.bool la)).setCell ⟨w.heap.size, 3, none⟩ (.int .i64 V)).setCell ⟨w.heap.size, 4, none⟩ (.int .i64 V2)).alloc (.cells #[.int .i64 m, .bool f, .bool la, .int .i64 V, .int .i64 V2] 50)) = X at HF ⊢
  obtain ⟨c0, c1, c2, c3, c4⟩ := laid5 HF.out.1
  exact bodyPost_ret (v := .tuple #[.agg #[(.int .i64 m), (.bool f), (.bool la), (.int .i64 V), (.int .i64 V2)], .int .i64 K2, .int .i64 0]) (by simp [results, Tryz.results59, go_sem, c0, c1, c2, c3, c4]; try rfl) rfl ⟨rfl, HF.out.2⟩
end Go.Proofs.YtgdbeiadlgkedaaGreatDoor
