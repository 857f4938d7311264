/- The law of rows' headers. -/
import Derived.Test.YtgdbeiadlgkedaaDoorRhJ
set_option linter.unusedVariables false
set_option linter.unusedSimpArgs false
namespace Go.Proofs.YtgdbeiadlgkedaaDoor
open Go.RowKit PFnRowHeader Go.Proofs.YtgdbeiadlgkedaaDoorW.PrintWords Go.Proofs.YtgdbeiadlgkedaaDoorW.PrintLast Go.Proofs.YtgdbeiadlgkedaaDoorW.PrintMore
theorem info4 : (Tryd.prog.info? 4).map (fun i => (i.zero, i.size, i.bytes)) = some (some (.bool false), 1, 1) := by kernel_rfl
section
variable {P : Program} {ops : Array Oper} {rest : List Oper} {o : Oper} {a : Act} {Q : Exit → Act → World → Prop}
/-- append(v, ys..) of bools in a plain region: the new slice by its parts. -/
theorem R_append_bools {w0 W : World} (base : Nat) (hgd : o.guard = none) (s x : Operand) (t : TypeId)
    (ho : o.op = .call { callee := .builtin .append, args := #[s, x], argTypes := #[t, t] })
    (ht : P.underlying t = some (.slice 4)) (hinfo : (P.info? 4).map (fun i => (i.zero, i.size, i.bytes)) = some (some (.bool false), 1, 1))
    (v : Value) (xs ys : List Bool) (A : Option Addr) (m c : Nat) (hs : a.eval s = v) (hx : a.eval x = .slice A m c)
    (HO : Kd.bool.R 4 W base (fun _ => True) v xs) (HR : Kd.bool.C W A m ys) (HB : Below base w0 W) (hbase : base ≤ W.heap.size) (hl : (xs.length + m) * 1 ≤ 140737488355328)
    (h : ∀ A1 c1 w1, Kd.bool.R 4 w1 base (fun _ => True) (.slice A1 (xs ++ ys).length c1) (xs ++ ys) → Below base w0 w1 → W.grownBy w1 v.ownBlock → wpList P ops Q rest (a.put o.dst (.slice A1 (xs ++ ys).length c1)) w1) : wpList P ops Q (o :: rest) a W := by
  refine Kd.R_append_rows Kd.bool (Rr := Kd.bool.K W) (w0 := w0) base hgd s x t 4 _ 1 ho ht hinfo rfl (by decide) (by decide) v xs ys A m c (fun _ => True) (fun _ => False) hs hx HO HR (fun _ _ q => q) (fun _ q => q.elim) (fun _ _ => trivial) HB hbase hl (fun v1 w1 h1 h2 h3 _ => ?_)
  obtain ⟨A1, c1, hv⟩ := Kd.R_slice h1
  subst hv
  exact h A1 c1 w1 h1 h2 h3
end
theorem below_none {W w1 : World} (h : W.grownBy w1 none) : Below W.heap.size W w1 := ⟨h.os, h.tape, h.output, h.size, fun i hi => h.block i hi (by simp)⟩
set_option maxHeartbeats 4000000 in
set_option maxRecDepth 100000 in
theorem rowHeader_row (pe pl : Addr) (n : Int) (A : Option Addr) (cA : Nat) (l : List Bool) (w : World) (he : Env w.heap.size pe pl w) (hC : Kd.C Kd.bool w A l.length l) (hc : l.length ≤ cA) :
    Calls Tryd.prog 18 #[.int .i64 n, .slice A l.length cA] w fun e w' => e = .returned (.bool true) ∧ Below w.heap.size w w' := by
  have HE := Lib.hid he
  by_cases h1 : 2147483647 < l.length
  · have hc1 : 2147483647 < (l.length : Int) := by omega
    clear he hC hc h1
    go_enter Tryd.func18, Tryd.ntmps18
    go_wp2
    go_ret
    exact ⟨rfl, Below.refl _ w⟩
  · have hc1 : ¬ 2147483647 < (l.length : Int) := by omega
    by_cases h2 : 0 ≤ n ∧ n ≤ 10000 ∧ (l.length : Int) ≤ 200 ∧ (l.length : Int) ≤ n
    · have HF := Lib.hid (laws_codRowFew.calls n A cA l true w hC hc (by rw [few_some, decide_eq_true h2]))
      obtain ⟨k, rfl⟩ := Int.eq_ofNat_of_zero_le h2.1
      have HK := Lib.hid (show k ≤ 10000 ∧ l.length ≤ 200 ∧ l.length ≤ k by omega)
      obtain ⟨f, hf⟩ := rowHead_some k HK.out.1 l HK.out.2.1
      have HS := Lib.hid hf
      have HC := Lib.hid hC
      have HCC := Lib.hid hc
      generalize hr : (⟨(rhead k l).toArray⟩ : ByteArray) = r at HS
      have HRR := Lib.hid hr
      clear he hC hc h1 h2 hf hr
      go_enter Tryd.func18, Tryd.ntmps18
      go_wp2_with (first
        | (go_at_call 43; go_loud (refine HF.out.mono ?_; rintro e_ w1 ⟨rfl, hd⟩; have HB1 := Lib.hid hd.below; have HC1 := Lib.hid (Kd.C_below HC.out hd.below); clear hd))
        | ((with_reducible refine gate_builtin (b := .append) (xs := #[.const (.slice none 0 0), .tmp 17]) rfl ?_); at_builtin; refine R_append_bools (w0 := w) (W := w1) w.heap.size rfl (.const (.slice none 0 0)) (.tmp 17) 75 rfl Tryd.underlying75 info4 _ [] l A l.length cA rfl rfl (Kd.R_nil _ _ _ _ _) HC1.out HB1.out HB1.out.size ?hl ?_; (case hl => have := HK.out; simp; omega); intro A2 c2 w2 hR2 hB2 hg2; rw [List.nil_append] at hR2 ⊢; have HC2 := Lib.hid (Kd.R_reads' hR2).2.2; have HB2 := Lib.hid hB2; have HG2 := Lib.hid (Kd.C_below HC1.out (below_none hg2)); clear hR2 hB2 hg2)
        | (go_at_call 44; go_loud (refine (implRow_any A2 c2 k l w2 HK.out.1 HK.out.2.1 HK.out.2.2 HC2.out).mono ?_; rintro e_ w3 ⟨rfl, hb⟩; rw [HRR.out]; have HB3 := Lib.hid (below_then HB2.out HB2.out.size hb); have HC3 := Lib.hid (Kd.C_below HG2.out hb); clear hb))
        | (go_at_call 21; refine (awake_any w.heap.size pe pl w3 (HE.out.below HB3.out) HB3.out.size).mono ?_; rintro e_ w4 ⟨rfl, hb⟩; have HB4 := Lib.hid (below_then HB3.out HB3.out.size hb); have HC4 := Lib.hid (Kd.C_below HC3.out hb); clear hb)
        | (go_at_call 42; refine (spec_CodRowHead.calls f _ A cA l r w4 HC4.out HCC.out HS.out).mono ?_; rintro e_ w5 ⟨rfl, hb⟩; have HB5 := Lib.hid (below_then HB4.out HB4.out.size hb); clear hb))
      go_ret
      exact ⟨rfl, HB5.out⟩
    · have HF := Lib.hid (laws_codRowFew.calls n A cA l false w hC hc (by rw [few_some, decide_eq_false h2]))
      clear he hC hc h1 h2
      go_enter Tryd.func18, Tryd.ntmps18
      go_wp2_with (first
        | (go_at_call 43; go_loud (refine HF.out.mono ?_; rintro e_ w1 ⟨rfl, hd⟩; have HB1 := Lib.hid hd.below; clear hd))
        | (go_at_call 21; refine (awake_any w.heap.size pe pl w1 (HE.out.below HB1.out) HB1.out.size).mono ?_; rintro e_ w4 ⟨rfl, hb⟩; have HB4 := Lib.hid (below_then HB1.out HB1.out.size hb); clear hb))
      go_ret
      exact ⟨rfl, HB4.out⟩
end Go.Proofs.YtgdbeiadlgkedaaDoor
