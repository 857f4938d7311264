/- Contracts and plain laws, several texts in one. -/
import Derived.Test.YtgdbeiadlgkedaaGreatDoorMHeaderRead7
import Derived.Test.YtgdbeiadlgkedaaGreatDoorMHeaderRead12
import Derived.Test.YtgdbeiadlgkedaaGreatDoorMHeaderRead15
set_option linter.unusedVariables false
set_option linter.unusedSimpArgs false
namespace Go.Proofs.YtgdbeiadlgkedaaGreatDoor
open Go.RowKit PFnWindowsRead Go.Proofs.YtgdbeiadlgkedaaGreatDoorW.PrintWords Go.Proofs.YtgdbeiadlgkedaaGreatDoorW.PrintLast Go.Proofs.YtgdbeiadlgkedaaGreatDoorW.PrintMore
theorem cells11 {w : World} {k T : Nat} {v0 v1 v2 v3 v4 v5 v6 v7 v8 v9 v10 : Value} (h : w.heap[k]? = some (.cells #[v0, v1, v2, v3, v4, v5, v6, v7, v8, v9, v10] T (0, 0))) : w.cell? ⟨k, 0, none⟩ = some v0 ∧ w.cell? ⟨k, 1, none⟩ = some v1 ∧ w.cell? ⟨k, 2, none⟩ = some v2 ∧ w.cell? ⟨k, 3, none⟩ = some v3 ∧ w.cell? ⟨k, 4, none⟩ = some v4 ∧ w.cell? ⟨k, 5, none⟩ = some v5 ∧ w.cell? ⟨k, 6, none⟩ = some v6 ∧ w.cell? ⟨k, 7, none⟩ = some v7 ∧ w.cell? ⟨k, 8, none⟩ = some v8 ∧ w.cell? ⟨k, 9, none⟩ = some v9 ∧ w.cell? ⟨k, 10, none⟩ = some v10 :=
  ⟨(blk_cell h 0).trans rfl, (blk_cell h 1).trans rfl, (blk_cell h 2).trans rfl, (blk_cell h 3).trans rfl, (blk_cell h 4).trans rfl, (blk_cell h 5).trans rfl, (blk_cell h 6).trans rfl, (blk_cell h 7).trans rfl, (blk_cell h 8).trans rfl, (blk_cell h 9).trans rfl, (blk_cell h 10).trans rfl⟩
theorem set13 {W : World} {b : Nat} {a0 a1 a2 a3 a4 a5 a6 a7 a8 a9 a10 a11 a12 : Value} {T : TypeId} {fr : Nat × Nat} (h : W.heap[b]? = some (.cells #[a0, a1, a2, a3, a4, a5, a6, a7, a8, a9, a10, a11, a12] T fr)) (v0 v1 v2 v3 v4 v5 v6 v7 v8 v9 v10 v11 v12 : Value) :
    (((((((((((((W.setCell ⟨b, 0, none⟩ v0).setCell ⟨b, 1, none⟩ v1).setCell ⟨b, 2, none⟩ v2).setCell ⟨b, 3, none⟩ v3).setCell ⟨b, 4, none⟩ v4).setCell ⟨b, 5, none⟩ v5).setCell ⟨b, 6, none⟩ v6).setCell ⟨b, 7, none⟩ v7).setCell ⟨b, 8, none⟩ v8).setCell ⟨b, 9, none⟩ v9).setCell ⟨b, 10, none⟩ v10).setCell ⟨b, 11, none⟩ v11).setCell ⟨b, 12, none⟩ v12).heap[b]? = some (.cells #[v0, v1, v2, v3, v4, v5, v6, v7, v8, v9, v10, v11, v12] T fr) := by
  have h0 : (W.setCell ⟨b, 0, none⟩ v0).heap[b]? = some (.cells #[v0, a1, a2, a3, a4, a5, a6, a7, a8, a9, a10, a11, a12] T fr) := (Lib.heap_setCell_same (i := 0) h v0).trans rfl
  have h1 : ((W.setCell ⟨b, 0, none⟩ v0).setCell ⟨b, 1, none⟩ v1).heap[b]? = some (.cells #[v0, v1, a2, a3, a4, a5, a6, a7, a8, a9, a10, a11, a12] T fr) := (Lib.heap_setCell_same (i := 1) h0 v1).trans rfl
  have h2 : (((W.setCell ⟨b, 0, none⟩ v0).setCell ⟨b, 1, none⟩ v1).setCell ⟨b, 2, none⟩ v2).heap[b]? = some (.cells #[v0, v1, v2, a3, a4, a5, a6, a7, a8, a9, a10, a11, a12] T fr) := (Lib.heap_setCell_same (i := 2) h1 v2).trans rfl
  have h3 : ((((W.setCell ⟨b, 0, none⟩ v0).setCell ⟨b, 1, none⟩ v1).setCell ⟨b, 2, none⟩ v2).setCell ⟨b, 3, none⟩ v3).heap[b]? = some (.cells #[v0, v1, v2, v3, a4, a5, a6, a7, a8, a9, a10, a11, a12] T fr) := (Lib.heap_setCell_same (i := 3) h2 v3).trans rfl
  have h4 : (((((W.setCell ⟨b, 0, none⟩ v0).setCell ⟨b, 1, none⟩ v1).setCell ⟨b, 2, none⟩ v2).setCell ⟨b, 3, none⟩ v3).setCell ⟨b, 4, none⟩ v4).heap[b]? = some (.cells #[v0, v1, v2, v3, v4, a5, a6, a7, a8, a9, a10, a11, a12] T fr) := (Lib.heap_setCell_same (i := 4) h3 v4).trans rfl
  have h5 : ((((((W.setCell ⟨b, 0, none⟩ v0).setCell ⟨b, 1, none⟩ v1).setCell ⟨b, 2, none⟩ v2).setCell ⟨b, 3, none⟩ v3).setCell ⟨b, 4, none⟩ v4).setCell ⟨b, 5, none⟩ v5).heap[b]? = some (.cells #[v0, v1, v2, v3, v4, v5, a6, a7, a8, a9, a10, a11, a12] T fr) := (Lib.heap_setCell_same (i := 5) h4 v5).trans rfl
  have h6 : (((((((W.setCell ⟨b, 0, none⟩ v0).setCell ⟨b, 1, none⟩ v1).setCell ⟨b, 2, none⟩ v2).setCell ⟨b, 3, none⟩ v3).setCell ⟨b, 4, none⟩ v4).setCell ⟨b, 5, none⟩ v5).setCell ⟨b, 6, none⟩ v6).heap[b]? = some (.cells #[v0, v1, v2, v3, v4, v5, v6, a7, a8, a9, a10, a11, a12] T fr) := (Lib.heap_setCell_same (i := 6) h5 v6).trans rfl
  have h7 : ((((((((W.setCell ⟨b, 0, none⟩ v0).setCell ⟨b, 1, none⟩ v1).setCell ⟨b, 2, none⟩ v2).setCell ⟨b, 3, none⟩ v3).setCell ⟨b, 4, none⟩ v4).setCell ⟨b, 5, none⟩ v5).setCell ⟨b, 6, none⟩ v6).setCell ⟨b, 7, none⟩ v7).heap[b]? = some (.cells #[v0, v1, v2, v3, v4, v5, v6, v7, a8, a9, a10, a11, a12] T fr) := (Lib.heap_setCell_same (i := 7) h6 v7).trans rfl
  have h8 : (((((((((W.setCell ⟨b, 0, none⟩ v0).setCell ⟨b, 1, none⟩ v1).setCell ⟨b, 2, none⟩ v2).setCell ⟨b, 3, none⟩ v3).setCell ⟨b, 4, none⟩ v4).setCell ⟨b, 5, none⟩ v5).setCell ⟨b, 6, none⟩ v6).setCell ⟨b, 7, none⟩ v7).setCell ⟨b, 8, none⟩ v8).heap[b]? = some (.cells #[v0, v1, v2, v3, v4, v5, v6, v7, v8, a9, a10, a11, a12] T fr) := (Lib.heap_setCell_same (i := 8) h7 v8).trans rfl
  have h9 : ((((((((((W.setCell ⟨b, 0, none⟩ v0).setCell ⟨b, 1, none⟩ v1).setCell ⟨b, 2, none⟩ v2).setCell ⟨b, 3, none⟩ v3).setCell ⟨b, 4, none⟩ v4).setCell ⟨b, 5, none⟩ v5).setCell ⟨b, 6, none⟩ v6).setCell ⟨b, 7, none⟩ v7).setCell ⟨b, 8, none⟩ v8).setCell ⟨b, 9, none⟩ v9).heap[b]? = some (.cells #[v0, v1, v2, v3, v4, v5, v6, v7, v8, v9, a10, a11, a12] T fr) := (Lib.heap_setCell_same (i := 9) h8 v9).trans rfl
  have h10 : (((((((((((W.setCell ⟨b, 0, none⟩ v0).setCell ⟨b, 1, none⟩ v1).setCell ⟨b, 2, none⟩ v2).setCell ⟨b, 3, none⟩ v3).setCell ⟨b, 4, none⟩ v4).setCell ⟨b, 5, none⟩ v5).setCell ⟨b, 6, none⟩ v6).setCell ⟨b, 7, none⟩ v7).setCell ⟨b, 8, none⟩ v8).setCell ⟨b, 9, none⟩ v9).setCell ⟨b, 10, none⟩ v10).heap[b]? = some (.cells #[v0, v1, v2, v3, v4, v5, v6, v7, v8, v9, v10, a11, a12] T fr) := (Lib.heap_setCell_same (i := 10) h9 v10).trans rfl
  have h11 : ((((((((((((W.setCell ⟨b, 0, none⟩ v0).setCell ⟨b, 1, none⟩ v1).setCell ⟨b, 2, none⟩ v2).setCell ⟨b, 3, none⟩ v3).setCell ⟨b, 4, none⟩ v4).setCell ⟨b, 5, none⟩ v5).setCell ⟨b, 6, none⟩ v6).setCell ⟨b, 7, none⟩ v7).setCell ⟨b, 8, none⟩ v8).setCell ⟨b, 9, none⟩ v9).setCell ⟨b, 10, none⟩ v10).setCell ⟨b, 11, none⟩ v11).heap[b]? = some (.cells #[v0, v1, v2, v3, v4, v5, v6, v7, v8, v9, v10, v11, a12] T fr) := (Lib.heap_setCell_same (i := 11) h10 v11).trans rfl
  have h12 : (((((((((((((W.setCell ⟨b, 0, none⟩ v0).setCell ⟨b, 1, none⟩ v1).setCell ⟨b, 2, none⟩ v2).setCell ⟨b, 3, none⟩ v3).setCell ⟨b, 4, none⟩ v4).setCell ⟨b, 5, none⟩ v5).setCell ⟨b, 6, none⟩ v6).setCell ⟨b, 7, none⟩ v7).setCell ⟨b, 8, none⟩ v8).setCell ⟨b, 9, none⟩ v9).setCell ⟨b, 10, none⟩ v10).setCell ⟨b, 11, none⟩ v11).setCell ⟨b, 12, none⟩ v12).heap[b]? = some (.cells #[v0, v1, v2, v3, v4, v5, v6, v7, v8, v9, v10, v11, v12] T fr) := (Lib.heap_setCell_same (i := 12) h11 v12).trans rfl
  exact h12
theorem set13_below {W : World} {b B : Nat} (hb : B ≤ b) (v0 v1 v2 v3 v4 v5 v6 v7 v8 v9 v10 v11 v12 : Value) : Below B W (((((((((((((W.setCell ⟨b, 0, none⟩ v0).setCell ⟨b, 1, none⟩ v1).setCell ⟨b, 2, none⟩ v2).setCell ⟨b, 3, none⟩ v3).setCell ⟨b, 4, none⟩ v4).setCell ⟨b, 5, none⟩ v5).setCell ⟨b, 6, none⟩ v6).setCell ⟨b, 7, none⟩ v7).setCell ⟨b, 8, none⟩ v8).setCell ⟨b, 9, none⟩ v9).setCell ⟨b, 10, none⟩ v10).setCell ⟨b, 11, none⟩ v11).setCell ⟨b, 12, none⟩ v12) := ((((((((((((((Below.refl B W).setCell (p := ⟨b, 0, none⟩) hb v0).setCell (p := ⟨b, 1, none⟩) hb v1).setCell (p := ⟨b, 2, none⟩) hb v2).setCell (p := ⟨b, 3, none⟩) hb v3).setCell (p := ⟨b, 4, none⟩) hb v4).setCell (p := ⟨b, 5, none⟩) hb v5).setCell (p := ⟨b, 6, none⟩) hb v6).setCell (p := ⟨b, 7, none⟩) hb v7).setCell (p := ⟨b, 8, none⟩) hb v8).setCell (p := ⟨b, 9, none⟩) hb v9).setCell (p := ⟨b, 10, none⟩) hb v10).setCell (p := ⟨b, 11, none⟩) hb v11).setCell (p := ⟨b, 12, none⟩) hb v12)
theorem laid13 {X : World} {b : Nat} {v0 v1 v2 v3 v4 v5 v6 v7 v8 v9 v10 v11 v12 : Value} {T : TypeId} (h : X.heap[b]? = some (.cells #[v0, v1, v2, v3, v4, v5, v6, v7, v8, v9, v10, v11, v12] T (0, 0))) :
    X.cell? ⟨b, 0, none⟩ = some v0 ∧ X.cell? ⟨b, 1, none⟩ = some v1 ∧ X.cell? ⟨b, 2, none⟩ = some v2 ∧ X.cell? ⟨b, 3, none⟩ = some v3 ∧ X.cell? ⟨b, 4, none⟩ = some v4 ∧ X.cell? ⟨b, 5, none⟩ = some v5 ∧ X.cell? ⟨b, 6, none⟩ = some v6 ∧ X.cell? ⟨b, 7, none⟩ = some v7 ∧ X.cell? ⟨b, 8, none⟩ = some v8 ∧ X.cell? ⟨b, 9, none⟩ = some v9 ∧ X.cell? ⟨b, 10, none⟩ = some v10 ∧ X.cell? ⟨b, 11, none⟩ = some v11 ∧ X.cell? ⟨b, 12, none⟩ = some v12 :=
  ⟨(blk_cell h 0).trans rfl, (blk_cell h 1).trans rfl, (blk_cell h 2).trans rfl, (blk_cell h 3).trans rfl, (blk_cell h 4).trans rfl, (blk_cell h 5).trans rfl, (blk_cell h 6).trans rfl, (blk_cell h 7).trans rfl, (blk_cell h 8).trans rfl, (blk_cell h 9).trans rfl, (blk_cell h 10).trans rfl, (blk_cell h 11).trans rfl, (blk_cell h 12).trans rfl⟩
theorem open13 {X : World} {b : Nat} {cs : Array Value} {T : TypeId} (h : X.heap[b]? = some (.cells cs T (0, 0))) :
    X.frozen? ⟨b, 0, none⟩ = false ∧ X.frozen? ⟨b, 1, none⟩ = false ∧ X.frozen? ⟨b, 2, none⟩ = false ∧ X.frozen? ⟨b, 3, none⟩ = false ∧ X.frozen? ⟨b, 4, none⟩ = false ∧ X.frozen? ⟨b, 5, none⟩ = false ∧ X.frozen? ⟨b, 6, none⟩ = false ∧ X.frozen? ⟨b, 7, none⟩ = false ∧ X.frozen? ⟨b, 8, none⟩ = false ∧ X.frozen? ⟨b, 9, none⟩ = false ∧ X.frozen? ⟨b, 10, none⟩ = false ∧ X.frozen? ⟨b, 11, none⟩ = false ∧ X.frozen? ⟨b, 12, none⟩ = false :=
  ⟨blk_frozen h 0, blk_frozen h 1, blk_frozen h 2, blk_frozen h 3, blk_frozen h 4, blk_frozen h 5, blk_frozen h 6, blk_frozen h 7, blk_frozen h 8, blk_frozen h 9, blk_frozen h 10, blk_frozen h 11, blk_frozen h 12⟩
theorem num_any (s : ByteArray) (z : Nat) (hz : z ≤ 8) (hs : z ≤ s.size) (W : World) : Calls Tryz.prog 57 #[.string s, .int .i64 (z : Int)] W fun e w' => e = .returned (.tuple #[.int .u64 (Lib.beNat (s.data.toList.take z) : Nat), .int .i64 0]) ∧ Below W.heap.size W w' :=
  (spec_codNumber.calls 10 s z _ _ W (num_f s z hz hs)).mono fun _ _ ⟨a, b⟩ => ⟨a, b.below⟩
end Go.Proofs.YtgdbeiadlgkedaaGreatDoor
set_option linter.unusedVariables false
set_option linter.unusedSimpArgs false
namespace Go.Proofs.YtgdbeiadlgkedaaGreatDoor
open Go.RowKit PFnWindowsRead Go.Proofs.YtgdbeiadlgkedaaGreatDoorW.PrintWords Go.Proofs.YtgdbeiadlgkedaaGreatDoorW.PrintLast Go.Proofs.YtgdbeiadlgkedaaGreatDoorW.PrintMore
set_option maxHeartbeats 8000000 in
set_option maxRecDepth 100000 in
theorem decd_4_ok (s : ByteArray) (w : World) (hn : 8 ≤ s.size) :
    Calls Tryz.prog 31 #[.int .i64 4, .string s] w fun e w' => e = .returned (.agg #[(.int .i64 4), (.bool false), (.int .i64 (wrap64 (wrap64 ((Lib.beNat (s.data.toList.take 8)) : Nat) + -9223372036854775808))), (.int .u64 0), (.int .u64 0), (.string ⟨#[]⟩), (.int .i64 0), (.bool false), (.bool false), (.int .i64 0), (.int .i64 0), (.int .i64 8), (.int .i64 0)]) ∧ Below w.heap.size w w' := by
  have HN0 : ∀ W, Calls Tryz.prog 57 #[.string s, .int .i64 8] W fun e w' => e = .returned (.tuple #[.int .u64 (Lib.beNat (s.data.toList.take 8) : Nat), .int .i64 0]) ∧ Below W.heap.size W w' := fun W => num_any s 8 (by decide) hn W
  have hlt256 : (Lib.beNat (s.data.toList.take 8)) < 256 ^ 8 := by have := beNat_lt (s.data.toList.take 8); rwa [show (s.data.toList.take 8).length = 8 by rw [List.length_take, Array.length_toList]; show min 8 s.size = 8; omega] at this
  rw [show (256 : Nat) ^ 8 = 18446744073709551616 by decide] at hlt256
  generalize (Lib.beNat (s.data.toList.take 8)) = z at HN0 hlt256 ⊢
  obtain ⟨U, hU, hU2⟩ := xor_time z (by omega)
  obtain ⟨V, hV⟩ : ∃ V, Hid (wrap64 (U : Int) = V) := ⟨_, Lib.hid rfl⟩
  have q1 : wrap64 (U : Int) = V := hV.out
  have q2 : IntKind.i64.wrap (U : Int) = V := (IntWalk.i64_left _).trans hV.out
  rw [← hU2, hV.out]
  clear hU2
  have HN := Lib.hid (HN0)
  have HX := Lib.hid (blk_alloc (blk_alloc (heap_alloc_new w (.cells #[(.int .i64 0), (.bool false), (.int .i64 0), (.int .u64 0), (.int .u64 0), (.string ⟨#[]⟩), (.int .i64 0), (.bool false), (.bool false), (.int .i64 0), (.int .i64 0), (.int .i64 0), (.int .i64 0)] 67)) (.cells #[(.int .i64 4), (.bool false), (.int .i64 0), (.int .u64 0), (.int .u64 0), (.string ⟨#[]⟩), (.int .i64 0), (.bool false), (.bool false), (.int .i64 0), (.int .i64 0)] 65)) (.cells #[.int .i64 1, .int .i64 1, .int .i64 0, .int .i64 8, .int .i64 8, .int .i64 4, .int .i64 0, .int .i64 4, .int .i64 0, .int .i64 4, .int .i64 8, .int .i64 0, .int .i64 0] 3))
  have HY := blk_alloc (heap_alloc_new (w.alloc (.cells #[(.int .i64 0), (.bool false), (.int .i64 0), (.int .u64 0), (.int .u64 0), (.string ⟨#[]⟩), (.int .i64 0), (.bool false), (.bool false), (.int .i64 0), (.int .i64 0), (.int .i64 0), (.int .i64 0)] 67)) (.cells #[(.int .i64 4), (.bool false), (.int .i64 0), (.int .u64 0), (.int .u64 0), (.string ⟨#[]⟩), (.int .i64 0), (.bool false), (.bool false), (.int .i64 0), (.int .i64 0)] 65)) (.cells #[.int .i64 1, .int .i64 1, .int .i64 0, .int .i64 8, .int .i64 8, .int .i64 4, .int .i64 0, .int .i64 4, .int .i64 0, .int .i64 4, .int .i64 8, .int .i64 0, .int .i64 0] 3)
  rw [World.size_alloc] at HY
  replace HY := Lib.hid HY
  have HB := Lib.hid (below_alloc (below_alloc (below_alloc (Below.refl w.heap.size w) (.cells #[(.int .i64 0), (.bool false), (.int .i64 0), (.int .u64 0), (.int .u64 0), (.string ⟨#[]⟩), (.int .i64 0), (.bool false), (.bool false), (.int .i64 0), (.int .i64 0), (.int .i64 0), (.int .i64 0)] 67)) (.cells #[(.int .i64 4), (.bool false), (.int .i64 0), (.int .u64 0), (.int .u64 0), (.string ⟨#[]⟩), (.int .i64 0), (.bool false), (.bool false), (.int .i64 0), (.int .i64 0)] 65)) (.cells #[.int .i64 1, .int .i64 1, .int .i64 0, .int .i64 8, .int .i64 8, .int .i64 4, .int .i64 0, .int .i64 4, .int .i64 0, .int .i64 4, .int .i64 8, .int .i64 0, .int .i64 0] 3))
  clear hn HN0 hlt256
  go_enter Tryz.func31, Tryz.ntmps31
  go_wp2_with (first | (go_at_call 57; go_loud ((with_reducible refine (HN.out _).mono ?_); rintro e_ w1 ⟨rfl, hb⟩; have X1 := blk_below HX.out hb; have Y1 := blk_below HY.out hb; obtain ⟨k0, k1, k2_, k3, k4, k5, k6, k7, k8, k9, k10⟩ := cells11 Y1; have l0 := blk_frozen Y1 0; have l1 := blk_frozen Y1 1; have l2 := blk_frozen Y1 2; have l3 := blk_frozen Y1 3; have l4 := blk_frozen Y1 4; have l5 := blk_frozen Y1 5; have l6 := blk_frozen Y1 6; have l7 := blk_frozen Y1 7; have l8 := blk_frozen Y1 8; have l9 := blk_frozen Y1 9; have l10 := blk_frozen Y1 10; obtain ⟨p0, p1, p2, p3, p4, p5, p6, p7, p8, p9, p10, p11, p12⟩ := laid13 X1; obtain ⟨r0, r1, r2, r3, r4, r5, r6, r7, r8, r9, r10, r11, r12⟩ := open13 X1; have hlt := blk_lt X1; have hlt2 := blk_lt Y1; have HB1 := Lib.hid (below_then HB.out HB.out.size hb); have XX := Lib.hid X1; have YY := Lib.hid Y1; clear hb X1 Y1)))
  have HF := Lib.hid (show ((((((((((((((w1.setCell ⟨w.heap.size + 1, 2, none⟩ (.int .i64 V)).setCell ⟨w.heap.size, 0, none⟩ (.int .i64 4)).setCell ⟨w.heap.size, 1, none⟩ (.bool false)).setCell ⟨w.heap.size, 2, none⟩ (.int .i64 V)).setCell ⟨w.heap.size, 3, none⟩ (.int .u64 0)).setCell ⟨w.heap.size, 4, none⟩ (.int .u64 0)).setCell ⟨w.heap.size, 5, none⟩ (.string ⟨#[]⟩)).setCell ⟨w.heap.size, 6, none⟩ (.int .i64 0)).setCell ⟨w.heap.size, 7, none⟩ (.bool false)).setCell ⟨w.heap.size, 8, none⟩ (.bool false)).setCell ⟨w.heap.size, 9, none⟩ (.int .i64 0)).setCell ⟨w.heap.size, 10, none⟩ (.int .i64 0)).setCell ⟨w.heap.size, 11, none⟩ (.int .i64 8)).setCell ⟨w.heap.size, 12, none⟩ (.int .i64 0)).heap[w.heap.size]? = some (.cells #[(.int .i64 4), (.bool false), (.int .i64 V), (.int .u64 0), (.int .u64 0), (.string ⟨#[]⟩), (.int .i64 0), (.bool false), (.bool false), (.int .i64 0), (.int .i64 0), (.int .i64 8), (.int .i64 0)] 67 (0, 0)) ∧ Below w.heap.size w ((((((((((((((w1.setCell ⟨w.heap.size + 1, 2, none⟩ (.int .i64 V)).setCell ⟨w.heap.size, 0, none⟩ (.int .i64 4)).setCell ⟨w.heap.size, 1, none⟩ (.bool false)).setCell ⟨w.heap.size, 2, none⟩ (.int .i64 V)).setCell ⟨w.heap.size, 3, none⟩ (.int .u64 0)).setCell ⟨w.heap.size, 4, none⟩ (.int .u64 0)).setCell ⟨w.heap.size, 5, none⟩ (.string ⟨#[]⟩)).setCell ⟨w.heap.size, 6, none⟩ (.int .i64 0)).setCell ⟨w.heap.size, 7, none⟩ (.bool false)).setCell ⟨w.heap.size, 8, none⟩ (.bool false)).setCell ⟨w.heap.size, 9, none⟩ (.int .i64 0)).setCell ⟨w.heap.size, 10, none⟩ (.int .i64 0)).setCell ⟨w.heap.size, 11, none⟩ (.int .i64 8)).setCell ⟨w.heap.size, 12, none⟩ (.int .i64 0)) from ⟨set13 (W := (w1.setCell ⟨w.heap.size + 1, 2, none⟩ (.int .i64 V))) ((Below.heap_setCell _ _ _ _ (by show w.heap.size ≠ w.heap.size + 1; omega)).trans XX.out) (.int .i64 4) (.bool false) (.int .i64 V) (.int .u64 0) (.int .u64 0) (.string ⟨#[]⟩) (.int .i64 0) (.bool false) (.bool false) (.int .i64 0) (.int .i64 0) (.int .i64 8) (.int .i64 0), (HB1.out.setCell (p := ⟨w.heap.size + 1, 2, none⟩) (by show w.heap.size ≤ w.heap.size + 1; omega) (.int .i64 V)).trans (set13_below (Nat.le_refl _) (.int .i64 4) (.bool false) (.int .i64 V) (.int .u64 0) (.int .u64 0) (.string ⟨#[]⟩) (.int .i64 0) (.bool false) (.bool false) (.int .i64 0) (.int .i64 0) (.int .i64 8) (.int .i64 0))⟩)
  clear XX YY HB1
  generalize ((((((((((((((w1.setCell ⟨w.heap.size + 1, 2, none⟩ (.int .i64 V)).setCell ⟨w.heap.size, 0, none⟩ (.int .i64 4)).setCell ⟨w.heap.size, 1, none⟩ (.bool false)).setCell ⟨w.heap.size, 2, none⟩ (.int .i64 V)).setCell ⟨w.heap.size, 3, none⟩ (.int .u64 0)).setCell ⟨w.heap.size, 4, none⟩ (.int .u64 0)).setCell ⟨w.heap.size, 5, none⟩ (.string ⟨#[]⟩)).setCell ⟨w.heap.size, 6, none⟩ (.int .i64 0)).setCell ⟨w.heap.size, 7, none⟩ (.bool false)).setCell ⟨w.heap.size, 8, none⟩ (.bool false)).setCell ⟨w.heap.size, 9, none⟩ (.int .i64 0)).setCell ⟨w.heap.size, 10, none⟩ (.int .i64 0)).setCell ⟨w.heap.size, 11, none⟩ (.int .i64 8)).setCell ⟨w.heap.size, 12, none⟩ (.int .i64 0)) = X at HF ⊢
  obtain ⟨c0, c1, c2, c3, c4, c5, c6, c7, c8, c9, c10, c11, c12⟩ := laid13 HF.out.1
  exact bodyPost_ret (v := .agg #[(.int .i64 4), (.bool false), (.int .i64 V), (.int .u64 0), (.int .u64 0), (.string ⟨#[]⟩), (.int .i64 0), (.bool false), (.bool false), (.int .i64 0), (.int .i64 0), (.int .i64 8), (.int .i64 0)]) (by simp [results, Tryz.results31, go_sem, c0, c1, c2, c3, c4, c5, c6, c7, c8, c9, c10, c11, c12]; try rfl) rfl ⟨rfl, HF.out.2⟩
end Go.Proofs.YtgdbeiadlgkedaaGreatDoor
set_option linter.unusedVariables false
set_option linter.unusedSimpArgs false
namespace Go.Proofs.YtgdbeiadlgkedaaGreatDoor
open Go.RowKit PFnWindowOne Go.Proofs.YtgdbeiadlgkedaaGreatDoorW.PrintWords
theorem eqA42 (d : Nat) (w : World) (x0 y0 : Int) (x1 y1 x2 y2 : Bool) (x3 y3 x4 y4 : Int) :
    (Op.equalIn (d + 2) 42 (.agg #[.int .i64 x0, .bool x1, .bool x2, .int .i64 x3, .int .i64 x4]) (.agg #[.int .i64 y0, .bool y1, .bool y2, .int .i64 y3, .int .i64 y4])).run Tryz.prog w = .ok (x0 == y0 && (x1 == y1 && (x2 == y2 && (x3 == y3 && (x4 == y4))))) w := by
  refine eqA_of Tryz.underlying42 (by kernel_rfl) ?_
  refine eqf_cons (by rfl) (by go_simp; rfl) (by go_simp; rfl) (by go_simp) ?_
  refine eqf_cons (by rfl) (by go_simp; rfl) (by go_simp; rfl) (by go_simp) ?_
  refine eqf_cons (by rfl) (by go_simp; rfl) (by go_simp; rfl) (by go_simp) ?_
  refine eqf_cons (by rfl) (by go_simp; rfl) (by go_simp; rfl) (by go_simp) ?_
  exact eqf_last (by rfl) (by go_simp; rfl) (by go_simp; rfl) (by go_simp)
theorem run_asAgg (w : World) (x : Array Value) : Sem.run Tryz.prog (asAgg (.agg x)) w = .ok x w := rfl
set_option maxRecDepth 100000 in
theorem field67_0 (w : World) (a0 a1 a2 a3 a4 a5 a6 a7 a8 a9 a10 a11 a12 : Value) : Sem.run Tryz.prog (Instr.field 67 (.agg #[a0, a1, a2, a3, a4, a5, a6, a7, a8, a9, a10, a11, a12]) 0) w = .ok (.agg #[a0, a1, a2, a3, a4, a5, a6, a7, a8, a9, a10]) w := by
  unfold Instr.field
  go_simp
  rw [run_asAgg]
  rfl
set_option maxRecDepth 100000 in
theorem field65_2 (w : World) (a0 a1 a2 a3 a4 a5 a6 a7 a8 a9 a10 : Value) : Sem.run Tryz.prog (Instr.field 65 (.agg #[a0, a1, a2, a3, a4, a5, a6, a7, a8, a9, a10]) 2) w = .ok a2 w := by
  unfold Instr.field
  go_simp
  rw [run_asAgg]
  go_simp
attribute [local go_sem high] eqA50 eqA42 field67_0 field65_2
set_option maxHeartbeats 4000000 in
set_option maxRecDepth 100000 in
theorem paneOf_15 (w : World) : Calls Tryz.prog 32 #[.int .u8 15] w fun e w' => e = .returned (.agg #[.int .i64 3, .bool true, .bool true, .int .i64 0, .int .i64 0]) ∧ Below w.heap.size w w' := by
  have HZ := Lib.hid (show D1 w #[.int .i64 0, .bool false, .bool false, .int .i64 0, .int .i64 0] 42 (w.alloc (.cells #[.int .i64 0, .bool false, .bool false, .int .i64 0, .int .i64 0] 42)) from ⟨heap_alloc_new w _, below_alloc (Below.refl _ _) _⟩)
  have HN := Lib.hid (show ∀ W, Calls Tryz.prog 62 #[.int .u8 15] W (fun e w' => e = .returned (.agg #[.int .u8 3, .bool true, .bool true, .int .i64 0, .int .i64 0]) ∧ Below W.heap.size W w') from fun W => newPane_any 15 (by decide) W)
  have HP := Lib.hid (show ∀ W, Calls Tryz.prog 55 #[.agg #[.int .u8 3, .bool true, .bool true, .int .i64 0, .int .i64 0]] W (fun e w' => e = .returned (.agg #[.int .i64 3, .bool true, .bool true, .int .i64 0, .int .i64 0]) ∧ Below W.heap.size W w') from fun W => backPane_any 3 true true 0 0 (by decide) W)
  go_enter Tryz.func32, Tryz.ntmps32
  go_wp2_with (first
    | (go_at_call 62; go_loud ((with_reducible refine (HN.out _).mono ?_); rintro e_ w1 ⟨rfl, hb⟩; have H1 := Lib.hid (D1.step HZ.out hb); clear hb))
    | (go_at_call 55; go_loud ((with_reducible refine (HP.out _).mono ?_); rintro e_ w2 ⟨rfl, hb⟩; have H2 := Lib.hid (D1.step H1.out hb); obtain ⟨k0, k1, k2, k3, k4⟩ := laid5 H2.out.1; obtain ⟨g0, g1, g2, g3, g4⟩ := open5 H2.out.1; clear hb)))
  have HF := Lib.hid (D1.set5 H2.out (.int .i64 3) (.bool true) (.bool true) (.int .i64 0) (.int .i64 0))
  clear k0 k1 k2 k3 k4 g0 g1 g2 g3 g4
  generalize (((((w2.setCell ⟨w.heap.size, 0, none⟩ (.int .i64 3)).setCell ⟨w.heap.size, 1, none⟩ (.bool true)).setCell ⟨w.heap.size, 2, none⟩ (.bool true)).setCell ⟨w.heap.size, 3, none⟩ (.int .i64 0)).setCell ⟨w.heap.size, 4, none⟩ (.int .i64 0)) = X at HF ⊢
  obtain ⟨c0, c1, c2, c3, c4⟩ := laid5 HF.out.1
  exact bodyPost_ret (v := .agg #[.int .i64 3, .bool true, .bool true, .int .i64 0, .int .i64 0]) (by simp [results, Tryz.results32, go_sem, c0, c1, c2, c3, c4]; try rfl) rfl ⟨rfl, HF.out.2⟩
theorem hread_long (b : Bool) (t : ByteArray) (w : World) (h : 2147483647 < t.size) :
    Calls Tryz.prog 9 #[.bool b, .string t] w fun x w' => x = .returned (.bool true) ∧ Below w.heap.size w w' := by
  have h2 : 2147483647 < (t.size : Int) := by omega
  clear h
  go_enter Tryz.func9, Tryz.ntmps9
  go_wp2
  go_ret
  exact ⟨rfl, Below.refl _ w⟩
theorem hread_much (pe pl : Addr) (b : Bool) (t : ByteArray) (w : World) (he : Env w.heap.size pe pl w) (h : ¬ 2147483647 < t.size) (h3 : 400 < t.size) :
    Calls Tryz.prog 9 #[.bool b, .string t] w fun x w' => x = .returned (.bool true) ∧ Below w.heap.size w w' := by
  have HA := Lib.hid (awake_any w.heap.size pe pl w he (Nat.le_refl _))
  have h2 : ¬ 2147483647 < (t.size : Int) := by omega
  have h4 : 400 < (t.size : Int) := by omega
  clear h h3 he
  go_enter Tryz.func9, Tryz.ntmps9
  go_wp2_with (go_at_call 11; go_loud (refine HA.out.mono ?_; rintro e_ w1 ⟨rfl, hb1⟩; have HB1 := Lib.hid hb1; clear hb1))
  go_ret
  exact ⟨rfl, HB1.out⟩
set_option maxHeartbeats 8000000 in
set_option maxRecDepth 100000 in
theorem hread_U (pe pl : Addr) (b : Bool) (t : ByteArray) (w : World) (he : Env w.heap.size pe pl w) (h : t.size ≤ 400) (hs : ∀ W, Calls Tryz.prog 29 #[.int .i64 (kOf b), .string t] W fun e w' => ∃ (sA : Option Addr) (sn sc : Nat) (T tt : Int) (f la : Bool) (ix m u : Int), e = .returned (.agg #[.slice sA sn sc, .int .i64 T, .int .i64 tt, .bool f, .bool la, .int .i64 ix, .int .i64 m, .int .i64 u, .int .i64 2]) ∧ Below W.heap.size W w') :
    Calls Tryz.prog 9 #[.bool b, .string t] w fun x w' => x = .returned (.bool true) ∧ Below w.heap.size w w' := by
  have HE := Lib.hid he
  have HS := Lib.hid hs
  have h2 : (t.size : Int) ≤ 400 := by omega
  clear h he hs
  go_enter Tryz.func9, Tryz.ntmps9
  go_wp2_with (first
    | (go_at_call 21; go_loud (refine (kind_any b _).mono ?_; rintro e_ w1 ⟨rfl, rfl⟩))
    | (go_at_call 29; go_loud ((with_reducible refine (HS.out _).mono ?_); rintro e_ w2 ⟨sA, sn, sc, T, tt, f, la, ix, m, u, rfl, hb⟩; have HB2 := Lib.hid hb; have HX2 := Lib.hid (show D1 w2 #[.slice sA sn sc, .int .i64 T, .int .i64 tt, .bool f, .bool la, .int .i64 ix, .int .i64 m, .int .i64 u, .int .i64 2] 60 (w2.alloc (.cells #[.slice sA sn sc, .int .i64 T, .int .i64 tt, .bool f, .bool la, .int .i64 ix, .int .i64 m, .int .i64 u, .int .i64 2] 60)) from ⟨heap_alloc_new w2 _, below_alloc (Below.refl _ _) _⟩); have HW2 := Lib.hid (below_alloc HB2.out (.cells #[.slice sA sn sc, .int .i64 T, .int .i64 tt, .bool f, .bool la, .int .i64 ix, .int .i64 m, .int .i64 u, .int .i64 2] 60)); clear hb))
    | (go_at_call 11; go_loud ((with_reducible refine (awake_any w.heap.size pe pl _ (HE.out.below HW2.out) HW2.out.size).mono ?_); rintro e_ w9 ⟨rfl, hb⟩; have HB9 := Lib.hid (below_then HW2.out HW2.out.size hb); clear hb)))
  go_ret
  exact ⟨rfl, HB9.out⟩
set_option maxHeartbeats 8000000 in
set_option maxRecDepth 100000 in
theorem hread_T (pe pl : Addr) (b : Bool) (t : ByteArray) (w : World) (he : Env w.heap.size pe pl w) (h : t.size ≤ 400) (h8 : 8 ≤ t.size) (ho : ¬ (-9223372036854775 ≤ tmOf t.data.toList ∧ tmOf t.data.toList ≤ 9223372036854775)) (d : Int) (hd : d ≠ 2) (hs : ∀ W, Calls Tryz.prog 29 #[.int .i64 (kOf b), .string t] W fun e w' => ∃ (sA : Option Addr) (sn sc : Nat) (T tt : Int) (f la : Bool) (ix m u : Int), e = .returned (.agg #[.slice sA sn sc, .int .i64 T, .int .i64 tt, .bool f, .bool la, .int .i64 ix, .int .i64 m, .int .i64 u, .int .i64 d]) ∧ Below W.heap.size W w') :
    Calls Tryz.prog 9 #[.bool b, .string t] w fun x w' => x = .returned (.bool true) ∧ Below w.heap.size w w' := by
  have HE := Lib.hid he
  have HS := Lib.hid hs
  have h2 : (t.size : Int) ≤ 400 := by omega
  have q8 : (8 : Int) ≤ (t.size : Int) := by omega
  obtain ⟨TT, hTT⟩ : ∃ TT, TT = tmOf t.data.toList := ⟨_, rfl⟩
  have HT4 := Lib.hid (fun W => by have := decd_4_ok t W h8; rw [show wrap64 (wrap64 ((Lib.beNat (t.data.toList.take 8)) : Nat) + -9223372036854775808) = TT from hTT.symm] at this; exact this)
  rw [← hTT] at ho
  have HST := Lib.hid (fun W => by have := spanTime_any TT W; rw [decide_eq_false ho] at this; exact this)
  have hd2 : (d == 2) = false := beq_eq_false_iff_ne.2 hd
  clear h he hs h8 ho hTT
  go_enter Tryz.func9, Tryz.ntmps9
  go_wp2_with (first
    | (go_at_call 21; go_loud (refine (kind_any b _).mono ?_; rintro e_ w1 ⟨rfl, rfl⟩))
    | (go_at_call 29; go_loud ((with_reducible refine (HS.out _).mono ?_); rintro e_ w2 ⟨sA, sn, sc, T, tt, f, la, ix, m, u, rfl, hb⟩; have HB2 := Lib.hid hb; have HX2 := Lib.hid (show D1 w2 #[.slice sA sn sc, .int .i64 T, .int .i64 tt, .bool f, .bool la, .int .i64 ix, .int .i64 m, .int .i64 u, .int .i64 d] 60 (w2.alloc (.cells #[.slice sA sn sc, .int .i64 T, .int .i64 tt, .bool f, .bool la, .int .i64 ix, .int .i64 m, .int .i64 u, .int .i64 d] 60)) from ⟨heap_alloc_new w2 _, below_alloc (Below.refl _ _) _⟩); have HW2 := Lib.hid (below_alloc HB2.out (.cells #[.slice sA sn sc, .int .i64 T, .int .i64 tt, .bool f, .bool la, .int .i64 ix, .int .i64 m, .int .i64 u, .int .i64 d] 60)); clear hb))
    | (go_at_call 31; go_loud ((with_reducible refine (HT4.out _).mono ?_); rintro e_ w3 ⟨rfl, hb⟩; have HX3 := Lib.hid (D1.step HX2.out hb); have HW3 := Lib.hid (below_then HW2.out HW2.out.size hb); clear hb))
    | (go_at_call 30; go_loud ((with_reducible refine (HST.out _).mono ?_); rintro e_ w4 ⟨rfl, hb⟩; have HX4 := Lib.hid (D1.step HX3.out hb); have HW4 := Lib.hid (below_then HW3.out HW3.out.size hb); clear hb))
    | (go_at_call 11; go_loud ((with_reducible refine (awake_any w.heap.size pe pl _ (HE.out.below HW4.out) HW4.out.size).mono ?_); rintro e_ w9 ⟨rfl, hb⟩; have HB9 := Lib.hid (below_then HW4.out HW4.out.size hb); clear hb)))
  go_ret
  exact ⟨rfl, HB9.out⟩
set_option maxHeartbeats 8000000 in
set_option maxRecDepth 100000 in
theorem hread_Ws (pe pl : Addr) (b : Bool) (t : ByteArray) (w : World) (he : Env w.heap.size pe pl w) (h : t.size ≤ 400) (h8 : ¬ 8 ≤ t.size) (hs : ∀ W, Calls Tryz.prog 29 #[.int .i64 (kOf b), .string t] W fun e w' => ∃ (sA : Option Addr) (sn sc : Nat) (T tt : Int) (f la : Bool) (ix m u : Int), e = .returned (.agg #[.slice sA sn sc, .int .i64 T, .int .i64 tt, .bool f, .bool la, .int .i64 ix, .int .i64 m, .int .i64 u, .int .i64 1]) ∧ Below W.heap.size W w') (hd : ∀ W, Env w.heap.size pe pl W → w.heap.size ≤ W.heap.size → Calls Tryz.prog 23 #[.int .i64 (kOf b), .string t] W fun x w' => ∃ (z : Nat) (s : ByteArray), x = .returned (.tuple #[.slice none 0 0, .int .i64 0, .agg #[.int .i64 3, .bool true, .bool true, .int .i64 0, .int .i64 0], .int .i64 (z : Nat), .string s]) ∧ s.data.toList ≠ [] ∧ Below W.heap.size W w') :
    Calls Tryz.prog 9 #[.bool b, .string t] w fun x w' => x = .returned (.bool true) ∧ Below w.heap.size w w' := by
  have HE := Lib.hid he
  have HS := Lib.hid hs
  have h2 : (t.size : Int) ≤ 400 := by omega
  have HD := Lib.hid hd
  have q8 : ¬ (8 : Int) ≤ (t.size : Int) := by omega
  clear h he hs hd h8
  go_enter Tryz.func9, Tryz.ntmps9
  go_wp2_with (first
    | (go_at_call 21; go_loud (refine (kind_any b _).mono ?_; rintro e_ w1 ⟨rfl, rfl⟩))
    | (go_at_call 29; go_loud ((with_reducible refine (HS.out _).mono ?_); rintro e_ w2 ⟨sA, sn, sc, T, tt, f, la, ix, m, u, rfl, hb⟩; have HB2 := Lib.hid hb; have HX2 := Lib.hid (show D1 w2 #[.slice sA sn sc, .int .i64 T, .int .i64 tt, .bool f, .bool la, .int .i64 ix, .int .i64 m, .int .i64 u, .int .i64 1] 60 (w2.alloc (.cells #[.slice sA sn sc, .int .i64 T, .int .i64 tt, .bool f, .bool la, .int .i64 ix, .int .i64 m, .int .i64 u, .int .i64 1] 60)) from ⟨heap_alloc_new w2 _, below_alloc (Below.refl _ _) _⟩); have HW2 := Lib.hid (below_alloc HB2.out (.cells #[.slice sA sn sc, .int .i64 T, .int .i64 tt, .bool f, .bool la, .int .i64 ix, .int .i64 m, .int .i64 u, .int .i64 1] 60)); clear hb))
    | (go_at_call 23; go_loud ((with_reducible refine (HD.out _ (HE.out.below HW2.out) HW2.out.size).mono ?_); rintro e_ w5 ⟨z, s, rfl, hne, hb⟩; obtain ⟨n1, n2⟩ := ne_emptyZ hne; have HX5 := Lib.hid (D1.step (D1.step HX2.out hb) (show Below w5.heap.size w5 (w5.alloc (.cells #[.int .i64 3, .bool true, .bool true, .int .i64 0, .int .i64 0] 42)) from below_alloc (Below.refl _ _) _)); have HW5 := Lib.hid (below_then HW2.out HW2.out.size hb); have z9 := HX5.out.cells9.1.2.2.2.2.2.2.2.2; clear hb hne)))
  have HA6 := Lib.hid (show D1 w5 #[.int .i64 3, .bool true, .bool true, .int .i64 0, .int .i64 0] 42 (w5.alloc (.cells #[.int .i64 3, .bool true, .bool true, .int .i64 0, .int .i64 0] 42)).drew from ⟨heap_alloc_new w5 _, below_drew (below_alloc (Below.refl _ _) _)⟩)
  have HW6 := Lib.hid (show Below w.heap.size w (w5.alloc (.cells #[.int .i64 3, .bool true, .bool true, .int .i64 0, .int .i64 0] 42)).drew from below_then HW5.out HW5.out.size HA6.out.2)
  have K6 := D1.c5 HA6.out
  go_region_held3 (fun w' => w'.cell? ⟨w5.heap.size, 0, none⟩ = some (.int .i64 3) ∧ w'.cell? ⟨w5.heap.size, 1, none⟩ = some (.bool true) ∧ w'.cell? ⟨w5.heap.size, 2, none⟩ = some (.bool true) ∧ w'.cell? ⟨w5.heap.size, 3, none⟩ = some (.int .i64 0) ∧ w'.cell? ⟨w5.heap.size, 4, none⟩ = some (.int .i64 0)) (with_reducible assumption) (first
    | (go_at_call 11; go_loud ((with_reducible refine (awake_any w.heap.size pe pl (w5.alloc (.cells #[.int .i64 3, .bool true, .bool true, .int .i64 0, .int .i64 0] 42)).drew (HE.out.below HW6.out) HW6.out.size).mono ?_); rintro e_ w7 ⟨rfl, hb⟩; have HA7 := Lib.hid (D1.step HA6.out hb); have HW7 := Lib.hid (below_then HW6.out HW6.out.size hb); have K7 := D1.c5 HA7.out; clear hb))
    | (go_at_call 32; go_loud ((with_reducible refine (paneOf_15 w7).mono ?_); rintro e_ w8 ⟨rfl, hb⟩; have HA8 := Lib.hid (D1.step HA7.out hb); have HW8 := Lib.hid (below_then HW7.out HW7.out.size hb); have K8 := D1.c5 HA8.out; clear hb)))
  all_goals
    clear K6 K7 K8
    refine (by assumption : ∀ (a : Act) (w : World), Code.wp _ _ _ a w → _) _ _ ?_
    go_wp2
    go_ret
    exact ⟨rfl, HW8.out⟩
set_option maxHeartbeats 8000000 in
set_option maxRecDepth 100000 in
theorem hread_Wl (pe pl : Addr) (b : Bool) (t : ByteArray) (w : World) (he : Env w.heap.size pe pl w) (h : t.size ≤ 400) (h8 : 8 ≤ t.size) (ho : -9223372036854775 ≤ tmOf t.data.toList ∧ tmOf t.data.toList ≤ 9223372036854775) (hs : ∀ W, Calls Tryz.prog 29 #[.int .i64 (kOf b), .string t] W fun e w' => ∃ (sA : Option Addr) (sn sc : Nat) (T tt : Int) (f la : Bool) (ix m u : Int), e = .returned (.agg #[.slice sA sn sc, .int .i64 T, .int .i64 tt, .bool f, .bool la, .int .i64 ix, .int .i64 m, .int .i64 u, .int .i64 1]) ∧ Below W.heap.size W w') (hd : ∀ W, Env w.heap.size pe pl W → w.heap.size ≤ W.heap.size → Calls Tryz.prog 23 #[.int .i64 (kOf b), .string t] W fun x w' => ∃ (z : Nat) (s : ByteArray), x = .returned (.tuple #[.slice none 0 0, .int .i64 0, .agg #[.int .i64 3, .bool true, .bool true, .int .i64 0, .int .i64 0], .int .i64 (z : Nat), .string s]) ∧ s.data.toList ≠ [] ∧ Below W.heap.size W w') :
    Calls Tryz.prog 9 #[.bool b, .string t] w fun x w' => x = .returned (.bool true) ∧ Below w.heap.size w w' := by
  have HE := Lib.hid he
  have HS := Lib.hid hs
  have h2 : (t.size : Int) ≤ 400 := by omega
  have HD := Lib.hid hd
  have q8 : (8 : Int) ≤ (t.size : Int) := by omega
  obtain ⟨TT, hTT⟩ : ∃ TT, TT = tmOf t.data.toList := ⟨_, rfl⟩
  have HT4 := Lib.hid (fun W => by have := decd_4_ok t W h8; rw [show wrap64 (wrap64 ((Lib.beNat (t.data.toList.take 8)) : Nat) + -9223372036854775808) = TT from hTT.symm] at this; exact this)
  rw [← hTT] at ho
  have HST := Lib.hid (fun W => by have := spanTime_any TT W; rw [decide_eq_true ho] at this; exact this)
  clear h he hs hd h8 ho hTT
  go_enter Tryz.func9, Tryz.ntmps9
  go_wp2_with (first
    | (go_at_call 21; go_loud (refine (kind_any b _).mono ?_; rintro e_ w1 ⟨rfl, rfl⟩))
    | (go_at_call 29; go_loud ((with_reducible refine (HS.out _).mono ?_); rintro e_ w2 ⟨sA, sn, sc, T, tt, f, la, ix, m, u, rfl, hb⟩; have HB2 := Lib.hid hb; have HX2 := Lib.hid (show D1 w2 #[.slice sA sn sc, .int .i64 T, .int .i64 tt, .bool f, .bool la, .int .i64 ix, .int .i64 m, .int .i64 u, .int .i64 1] 60 (w2.alloc (.cells #[.slice sA sn sc, .int .i64 T, .int .i64 tt, .bool f, .bool la, .int .i64 ix, .int .i64 m, .int .i64 u, .int .i64 1] 60)) from ⟨heap_alloc_new w2 _, below_alloc (Below.refl _ _) _⟩); have HW2 := Lib.hid (below_alloc HB2.out (.cells #[.slice sA sn sc, .int .i64 T, .int .i64 tt, .bool f, .bool la, .int .i64 ix, .int .i64 m, .int .i64 u, .int .i64 1] 60)); clear hb))
    | (go_at_call 31; go_loud ((with_reducible refine (HT4.out _).mono ?_); rintro e_ w3 ⟨rfl, hb⟩; have HX3 := Lib.hid (D1.step HX2.out hb); have HW3 := Lib.hid (below_then HW2.out HW2.out.size hb); clear hb))
    | (go_at_call 30; go_loud ((with_reducible refine (HST.out _).mono ?_); rintro e_ w4 ⟨rfl, hb⟩; have HX4 := Lib.hid (D1.step HX3.out hb); have HW4 := Lib.hid (below_then HW3.out HW3.out.size hb); have z8 := HX4.out.cells9.1.2.2.2.2.2.2.2.2; clear hb))
    | (go_at_call 23; go_loud ((with_reducible refine (HD.out _ (HE.out.below HW4.out) HW4.out.size).mono ?_); rintro e_ w5 ⟨z, s, rfl, hne, hb⟩; obtain ⟨n1, n2⟩ := ne_emptyZ hne; have HX5 := Lib.hid (D1.step (D1.step HX4.out hb) (show Below w5.heap.size w5 (w5.alloc (.cells #[.int .i64 3, .bool true, .bool true, .int .i64 0, .int .i64 0] 42)) from below_alloc (Below.refl _ _) _)); have HW5 := Lib.hid (below_then HW4.out HW4.out.size hb); have z9 := HX5.out.cells9.1.2.2.2.2.2.2.2.2; clear hb hne)))
  have HA6 := Lib.hid (show D1 w5 #[.int .i64 3, .bool true, .bool true, .int .i64 0, .int .i64 0] 42 (w5.alloc (.cells #[.int .i64 3, .bool true, .bool true, .int .i64 0, .int .i64 0] 42)).drew from ⟨heap_alloc_new w5 _, below_drew (below_alloc (Below.refl _ _) _)⟩)
  have HW6 := Lib.hid (show Below w.heap.size w (w5.alloc (.cells #[.int .i64 3, .bool true, .bool true, .int .i64 0, .int .i64 0] 42)).drew from below_then HW5.out HW5.out.size HA6.out.2)
  have K6 := D1.c5 HA6.out
  go_region_held3 (fun w' => w'.cell? ⟨w5.heap.size, 0, none⟩ = some (.int .i64 3) ∧ w'.cell? ⟨w5.heap.size, 1, none⟩ = some (.bool true) ∧ w'.cell? ⟨w5.heap.size, 2, none⟩ = some (.bool true) ∧ w'.cell? ⟨w5.heap.size, 3, none⟩ = some (.int .i64 0) ∧ w'.cell? ⟨w5.heap.size, 4, none⟩ = some (.int .i64 0)) (with_reducible assumption) (first
    | (go_at_call 11; go_loud ((with_reducible refine (awake_any w.heap.size pe pl (w5.alloc (.cells #[.int .i64 3, .bool true, .bool true, .int .i64 0, .int .i64 0] 42)).drew (HE.out.below HW6.out) HW6.out.size).mono ?_); rintro e_ w7 ⟨rfl, hb⟩; have HA7 := Lib.hid (D1.step HA6.out hb); have HW7 := Lib.hid (below_then HW6.out HW6.out.size hb); have K7 := D1.c5 HA7.out; clear hb))
    | (go_at_call 32; go_loud ((with_reducible refine (paneOf_15 w7).mono ?_); rintro e_ w8 ⟨rfl, hb⟩; have HA8 := Lib.hid (D1.step HA7.out hb); have HW8 := Lib.hid (below_then HW7.out HW7.out.size hb); have K8 := D1.c5 HA8.out; clear hb)))
  all_goals
    clear K6 K7 K8
    refine (by assumption : ∀ (a : Act) (w : World), Code.wp _ _ _ a w → _) _ _ ?_
    go_wp2
    go_ret
    exact ⟨rfl, HW8.out⟩
end Go.Proofs.YtgdbeiadlgkedaaGreatDoor
