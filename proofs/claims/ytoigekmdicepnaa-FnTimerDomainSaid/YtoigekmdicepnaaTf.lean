/- Contracts: the options of a timer; a timer that is set with its options. -/
import Derived.Test.YtoigekmdicepnaaTd
import Derived.Test.YtoigekmdicepnaaTe
set_option linter.unusedVariables false
set_option linter.unusedSimpArgs false
namespace Go.Proofs.Ytoigekmdicepnaa
open Go.RowKit Go.Proofs.YtoigekmdicepnaaW.PrintWords Go.Proofs.YtoigekmdicepnaaW.PrintLast Go.Proofs.YtoigekmdicepnaaW.PrintMore

theorem withTag_any (s : ByteArray) (w : World) : Calls Try.prog 91 #[.string s] w fun e w' => ∃ b, e = .returned (.func (.func 125) #[] #[.pointer (some ⟨b, 0, none⟩)]) ∧ Op3.ok w' (.tag b s) ∧ Below w.heap.size w w' := by
  have hmf : ∀ (fn : Fn) (first cap : Array Value) (w : World), (Instr.makeFunc fn first cap).run Try.prog w = .ok (.func fn first cap) w := fun _ _ _ _ => rfl
  have HX := Aside0.mk (heap_alloc_new w (.cells #[.string s] 9))
  go_enter Try.func91, Try.ntmps91
  go_wp2
  go_ret
  exact ⟨_, rfl, (blk_cell HX.out 0).trans rfl, below_alloc (Below.refl _ _) _⟩
theorem withHold_any (t : Int) (w : World) : Calls Try.prog 92 #[.int .i64 t] w fun e w' => ∃ b, e = .returned (.func (.func 126) #[] #[.pointer (some ⟨b, 0, none⟩)]) ∧ Op3.ok w' (.hold b t) ∧ Below w.heap.size w w' := by
  have hmf : ∀ (fn : Fn) (first cap : Array Value) (w : World), (Instr.makeFunc fn first cap).run Try.prog w = .ok (.func fn first cap) w := fun _ _ _ _ => rfl
  have HX := Aside0.mk (heap_alloc_new w (.cells #[.int .i64 t] 113))
  go_enter Try.func92, Try.ntmps92
  go_wp2
  go_ret
  exact ⟨_, rfl, (blk_cell HX.out 0).trans rfl, below_alloc (Below.refl _ _) _⟩
theorem withNo_any (w : World) : Calls Try.prog 94 #[] w fun e w' => e = .returned (.func (.func 127) #[] #[]) ∧ w = w' := by
  go_enter Try.func94, Try.ntmps94
  go_wp2
  go_ret
  exact ⟨rfl, rfl⟩
/-- A literal of one-cell elements, read. -/
theorem C_lit {α : Type} {enc : α → Value} {h1 : ∀ x, (enc x).oneCell' = true} {w : World} {g : Nat} {t : TypeId} {cs : Array Value} {xs : List α} (h : w.heap[g]? = some (.cells cs t (0, 0))) (hcs : cs.toList = xs.map enc) (hn : xs.length ≤ 9223372036854775807) : Kd.C (Kd.scalar enc h1) w (some ⟨g, 0, none⟩) xs.length xs := by
  refine ⟨rfl, hn, fun _ => ⟨⟨g, 0, none⟩, rfl, fun j p hp => ⟨[enc p], rfl, rfl, fun i u hu => ?_⟩⟩⟩
  have hi : i = 0 := by
    by_cases hi : i = 0
    · exact hi
    · rw [List.getElem?_eq_none (by simp; omega)] at hu; cases hu
  subst hi
  have hu' : enc p = u := by simpa using hu
  subst hu'
  rw [add_plain, blk_cell h]
  have e1 : cs[j * (Kd.scalar enc h1).sz + 0]? = cs.toList[j]? := by rw [Array.getElem?_toList]; show cs[j * 1 + 0]? = _; rw [Nat.mul_one, Nat.add_zero]
  rw [e1, hcs, List.getElem?_map, hp]
  rfl
/-- What a step that sets gives the provider. -/
def stepTM (fam tag : ByteArray) (tagged : Bool) (at_ hold hat : Int) : TM := ⟨fam, if tagged then tag else ByteArray.empty, false, cutT at_, if hold = 1 then cutT hat else if hold = 2 then 9223372036854775 else cutT at_⟩
end Go.Proofs.Ytoigekmdicepnaa
