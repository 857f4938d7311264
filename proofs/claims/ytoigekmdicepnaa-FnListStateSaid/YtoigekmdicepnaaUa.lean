/- Entries of an ordered list in memory. -/
import Derived.Test.YtoigekmdicepnaaSn
import Derived.Test.YtoigekmdicepnaaLa
set_option linter.unusedVariables false
set_option linter.unusedSimpArgs false
namespace Go.Proofs.Ytoigekmdicepnaa
open Go.RowKit Go.Proofs.YtoigekmdicepnaaW.PrintWords Go.Proofs.YtoigekmdicepnaaW.PrintLast Go.Proofs.YtoigekmdicepnaaW.PrintMore
open Go.Proofs.Ytoigekmdicepnaa.Ord (E2 ins isort Tx inR tx1 replay)

/-- An entry: its key and its value of any type. -/
def kEn : Kd E2 := Kd.iso (Kd.pair (Kd.int .i64) kAv) (fun x : E2 => (x.1, Av.int x.2))
/-- An entry as it is told. -/
def kOl : Kd E2 := Kd.pair (Kd.int .i64) (Kd.int .i64)
theorem kEn_open {w : World} {x : E2} {cs : List Value} (h : kEn.K w x cs) : cs = [.int .i64 x.1, .iface 2 (.int .i64 x.2)] := by
  obtain ⟨_, _, rfl, rfl, rfl⟩ := h
  exact rfl
theorem kEn_openM {w : World} {base : Nat} {ok : Nat → Prop} {x : E2} {cs : List Value} (h : kEn.M w base ok x cs) : cs = [.int .i64 x.1, .iface 2 (.int .i64 x.2)] := by
  obtain ⟨_, _, rfl, rfl, rfl⟩ := h
  exact rfl
theorem kEn_mkM (w : World) (base : Nat) (ok : Nat → Prop) (x : E2) : kEn.M w base ok x [.int .i64 x.1, .iface 2 (.int .i64 x.2)] := ⟨[.int .i64 x.1], [.iface 2 (.int .i64 x.2)], rfl, rfl, rfl⟩
theorem kOl_open {w : World} {x : E2} {cs : List Value} (h : kOl.K w x cs) : cs = [.int .i64 x.1, .int .i64 x.2] := by
  obtain ⟨_, _, rfl, rfl, rfl⟩ := h
  exact rfl
theorem kOl_openM {w : World} {base : Nat} {ok : Nat → Prop} {x : E2} {cs : List Value} (h : kOl.M w base ok x cs) : cs = [.int .i64 x.1, .int .i64 x.2] := by
  obtain ⟨_, _, rfl, rfl, rfl⟩ := h
  exact rfl
theorem kOl_mkM (w : World) (base : Nat) (ok : Nat → Prop) (x : E2) : kOl.M w base ok x [.int .i64 x.1, .int .i64 x.2] := ⟨[.int .i64 x.1], [.int .i64 x.2], rfl, rfl, rfl⟩
def rdE (xs : List E2) (i : Nat) : E2 := xs.getD i (0, 0)
theorem rdE_get (xs : List E2) (i : Nat) (h : i < xs.length) : xs[i]? = some (rdE xs i) := by simp [rdE, List.getD_eq_getElem?_getD, h]
theorem takeE_succ (l : List E2) (k : Nat) (h : k < l.length) : l.take (k + 1) = l.take k ++ [rdE l k] := by
  rw [List.take_succ_eq_append_getElem h]; simp [rdE, List.getD_eq_getElem?_getD, h]
theorem dropE (l : List E2) (k : Nat) (h : k < l.length) : l.drop k = rdE l k :: l.drop (k + 1) := by
  rw [List.drop_eq_getElem_cons h]; simp [rdE, List.getD_eq_getElem?_getD, h]
theorem atE {w : World} {A : Option Addr} {n : Nat} {xs : List E2} (h : Kd.C kEn w A n xs) (i : Nat) (h1 : i < n) : ∃ ad, A = some ad ∧ w.cell? (ad.add (i * 2)) = some (.int .i64 (rdE xs i).1) ∧ w.cell? ⟨(ad.add (i * 2)).block, (ad.add (i * 2)).off + 1, none⟩ = some (.iface 2 (.int .i64 (rdE xs i).2)) := by
  obtain ⟨ad, c, e, _, hK, hc0⟩ := Kd.C_get h (0, 0) (i : Int) (by omega) (by omega)
  have hc : ∀ j u, c[j]? = some u → w.cell? (ad.add (i * 2 + j)) = some u := hc0
  obtain rfl := kEn_open hK
  exact ⟨ad, e, hc 0 _ rfl, by rw [← add_field _ _ 1 (by omega)]; exact hc 1 _ rfl⟩
theorem atO {w : World} {A : Option Addr} {n : Nat} {xs : List E2} (h : Kd.C kOl w A n xs) (i : Nat) (h1 : i < n) : ∃ ad, A = some ad ∧ w.cell? (ad.add (i * 2)) = some (.int .i64 (rdE xs i).1) ∧ w.cell? ⟨(ad.add (i * 2)).block, (ad.add (i * 2)).off + 1, none⟩ = some (.int .i64 (rdE xs i).2) := by
  obtain ⟨ad, c, e, _, hK, hc0⟩ := Kd.C_get h (0, 0) (i : Int) (by omega) (by omega)
  have hc : ∀ j u, c[j]? = some u → w.cell? (ad.add (i * 2 + j)) = some u := hc0
  obtain rfl := kOl_open hK
  exact ⟨ad, e, hc 0 _ rfl, by rw [← add_field _ _ 1 (by omega)]; exact hc 1 _ rfl⟩
/-- The entries as values of any type. -/
def enA (l : List E2) : List Av := l.map (fun x => Av.en x.1 x.2)
theorem atEn {w : World} {A : Option Addr} {xs : List E2} (h : Kd.C kAv w A xs.length (enA xs)) (i : Nat) (h1 : i < xs.length) : ∃ ad, A = some ad ∧ w.cell? (ad.add i) = some (.iface 131 (.agg #[.int .i64 (rdE xs i).1, .iface 2 (.int .i64 (rdE xs i).2)])) := by
  obtain ⟨ad, c, e, _, hK, hc0⟩ := Kd.C_get h Av.nil (i : Int) (by omega) (by omega)
  have hc : ∀ j u, c[j]? = some u → w.cell? (ad.add (i * 1 + j)) = some u := hc0
  obtain rfl : c = [((enA xs).getD i Av.nil).val] := hK
  have e1 : (enA xs).getD i Av.nil = Av.en (rdE xs i).1 (rdE xs i).2 := by simp [rdE, enA, List.getD_eq_getElem?_getD, h1]
  rw [e1] at hc
  exact ⟨ad, e, (by have := hc 0 _ rfl; simpa using this : w.cell? (ad.add i) = some (Av.en (rdE xs i).1 (rdE xs i).2).val)⟩
/-- An entry of a row of the call's own: its cells and their marks. -/
theorem enE {W : World} {e base g n cap : Nat} {ok : Nat → Prop} {xs : List E2} (h : kEn.R e W base ok (.slice (some ⟨g, 0, none⟩) n cap) xs) (i : Nat) (hi : i < n) :
    W.cell? ⟨g, i * 2, none⟩ = some (.int .i64 (rdE xs i).1) ∧ W.cell? ⟨g, i * 2 + 1, none⟩ = some (.iface 2 (.int .i64 (rdE xs i).2)) ∧ W.frozen? ⟨g, i * 2, none⟩ = false ∧ W.frozen? ⟨g, i * 2 + 1, none⟩ = false := by
  obtain ⟨c, hl, hM, hc, hf⟩ := Kd.R_elem h (0, 0) (i : Int) (by omega) (by omega)
  obtain rfl := kEn_openM hM
  exact ⟨hc 0 _ rfl, hc 1 _ rfl, hf 0, hf 1⟩
theorem setE {W : World} {e base g n cap : Nat} {ok : Nat → Prop} {xs : List E2} (h : kEn.R e W base ok (.slice (some ⟨g, 0, none⟩) n cap) xs) (i : Nat) (hi : i < n) (x : E2) :
    kEn.R e ((W.setCell ⟨g, i * 2, none⟩ (.int .i64 x.1)).setCell ⟨g, i * 2 + 1, none⟩ (.iface 2 (.int .i64 x.2))) base ok (.slice (some ⟨g, 0, none⟩) n cap) (xs.set i x) ∧ W.grownBy ((W.setCell ⟨g, i * 2, none⟩ (.int .i64 x.1)).setCell ⟨g, i * 2 + 1, none⟩ (.iface 2 (.int .i64 x.2))) (some g) := by
  obtain ⟨c, hl, hM, hc, hf⟩ := Kd.R_elem h (0, 0) (i : Int) (by omega) (by omega)
  have hl2 : c.length = 2 := hl
  exact Kd.R_seg h (i : Int) (by omega) (by omega) (c := c) (seg := [.int .i64 x.1, .iface 2 (.int .i64 x.2)]) (j := 0) (okp := fun _ => False) (x' := x) hl hc (Nat.le_refl 2) (by
    show kEn.M W base _ x (c.take 0 ++ [.int .i64 x.1, .iface 2 (.int .i64 x.2)] ++ c.drop (0 + 2))
    rw [List.drop_eq_nil_of_le (by omega)]
    exact kEn_mkM _ _ _ x) (fun _ hk => hk.elim)
theorem olE {W : World} {e base g n cap : Nat} {ok : Nat → Prop} {xs : List E2} (h : kOl.R e W base ok (.slice (some ⟨g, 0, none⟩) n cap) xs) (i : Nat) (hi : i < n) :
    ∃ u v, W.cell? ⟨g, i * 2, none⟩ = some u ∧ W.cell? ⟨g, i * 2 + 1, none⟩ = some v ∧ W.frozen? ⟨g, i * 2, none⟩ = false ∧ W.frozen? ⟨g, i * 2 + 1, none⟩ = false := by
  obtain ⟨c, hl, hM, hc, hf⟩ := Kd.R_elem h (0, 0) (i : Int) (by omega) (by omega)
  obtain rfl := kOl_openM hM
  exact ⟨_, _, hc 0 _ rfl, hc 1 _ rfl, hf 0, hf 1⟩
theorem setO {W : World} {e base g n cap : Nat} {ok : Nat → Prop} {xs : List E2} (h : kOl.R e W base ok (.slice (some ⟨g, 0, none⟩) n cap) xs) (i : Nat) (hi : i < n) (x : E2) :
    kOl.R e ((W.setCell ⟨g, i * 2, none⟩ (.int .i64 x.1)).setCell ⟨g, i * 2 + 1, none⟩ (.int .i64 x.2)) base ok (.slice (some ⟨g, 0, none⟩) n cap) (xs.set i x) ∧ W.grownBy ((W.setCell ⟨g, i * 2, none⟩ (.int .i64 x.1)).setCell ⟨g, i * 2 + 1, none⟩ (.int .i64 x.2)) (some g) := by
  obtain ⟨c, hl, hM, hc, hf⟩ := Kd.R_elem h (0, 0) (i : Int) (by omega) (by omega)
  have hl2 : c.length = 2 := hl
  exact Kd.R_seg h (i : Int) (by omega) (by omega) (c := c) (seg := [.int .i64 x.1, .int .i64 x.2]) (j := 0) (okp := fun _ => False) (x' := x) hl hc (Nat.le_refl 2) (by
    show kOl.M W base _ x (c.take 0 ++ [.int .i64 x.1, .int .i64 x.2] ++ c.drop (0 + 2))
    rw [List.drop_eq_nil_of_le (by omega)]
    exact kOl_mkM _ _ _ x) (fun _ hk => hk.elim)
/-- A transaction of an ordered list. -/
def TrL (t : Tr) : Prop := (∃ k a v, t = ⟨k, 2, .int a, .int v⟩) ∨ (∃ k a b, t = ⟨k, 1, .rg a b, .nil⟩)
def txOf (t : Tr) : Tx := match t.m, t.v with | .int a, .int v => .app a v | .rg a b, _ => .clr a b | _, _ => .clr 0 0
theorem info131 : (Try.prog.info? 131).map (fun i => (i.zero, i.size, i.bytes)) = some (some (.agg #[.int .i64 0, .nilIface]), 2, 24) := by kernel_rfl
theorem info140 : (Try.prog.info? 140).map (fun i => (i.zero, i.size, i.bytes)) = some (some (.agg #[.int .i64 0, .int .i64 0]), 2, 16) := by kernel_rfl
end Go.Proofs.Ytoigekmdicepnaa
