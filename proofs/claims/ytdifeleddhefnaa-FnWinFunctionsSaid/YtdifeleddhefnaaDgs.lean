/- The digits of the reference: the contract of winDigits. -/
import Derived.Test.YtdifeleddhefnaaFsn
import Derived.Lib.SlBytesRow
set_option linter.unusedVariables false
set_option linter.unusedSimpArgs false
namespace Go.Proofs.Ytdifeleddhefnaa
open Go.RowKit Go.Proofs.YtdifeleddhefnaaW.PrintWords

theorem ba_ext {a b : ByteArray} (h : a.data.toList = b.data.toList) : a = b := ByteArray.ext (Array.toList_inj.1 h)
theorem bstr_app (a b : List Int) : bstr a ++ bstr b = bstr (a ++ b) := by
  apply ba_ext
  rw [ByteArray.data_append, Array.toList_append]
  show (strOfNums a).data.toList ++ (strOfNums b).data.toList = (strOfNums (a ++ b)).data.toList
  rw [strOfNums_data, strOfNums_data, strOfNums_data, List.map_append]
theorem bstr_size (a : List Int) : (bstr a).size = a.length := strOfNums_size a
theorem conv_one {w : World} {g : Nat} {x : Int} (h : w.heap[g]? = some (.cells #[.int .u8 x] 5 (0, 0))) (c : Nat) : (convert 128 9 (.slice (some ⟨g, 0, none⟩) 1 c)).run Try.prog w = .ok (.string (bstr [x])) w :=
  run_convert_bytes_arg w 128 5 Try.underlying128 Try.underlying5 g 0 1 c [x] rfl (fun i hi => by
    obtain rfl : i = 0 := by omega
    exact (blk_cell h 0).trans rfl) 9 Try.underlying9
theorem dg_len20 {n : Nat} (h : n < 10000000000) : (dg n).length ≤ 10 := by
  have h1 := dg_succ n
  have h2 := dg_succ (n / 10)
  have h3 := dg_succ (n / 10 / 10)
  have h4 := dg_le7 (n := n / 10 / 10 / 10) (by omega)
  omega
theorem digits_small (n : Nat) (h : n < 10) (w : World) : Calls Try.prog 84 #[.int .i64 n] w fun e w' => e = .returned (.string (bstr (dg n))) ∧ Below w.heap.size w w' := by
  rw [dg_small h]
  have hcv := conv_one (heap_alloc_new w (.cells #[.int .u8 (48 + (n : Int))] 5)) 1
  obtain ⟨z, hz⟩ : ∃ z : Int, z = (n : Int) := ⟨_, rfl⟩
  rw [← hz] at hcv ⊢
  have q1 : 0 ≤ z := by omega
  have q2 : z < 10 := by omega
  clear hz
  go_enter Try.func84, Try.ntmps84
  go_wp2
  go_ret
  exact ⟨rfl, below_alloc (Below.refl _ _) _⟩
theorem digits_any : ∀ (n : Nat), n ≤ 1000000000 → ∀ w : World, Calls Try.prog 84 #[.int .i64 n] w fun e w' => e = .returned (.string (bstr (dg n))) ∧ Below w.heap.size w w' := by
  intro n
  induction n using Nat.strongRecOn with
  | ind n ih =>
    intro hn w
    by_cases h : n < 10
    · exact digits_small n h w
    · have HI := Aside0.mk (fun W => ih (n / 10) (by omega) (by omega) W)
      have HJ := Aside0.mk (fun W => digits_small (n % 10) (by omega) W)
      have e1 : (n : Int).tdiv 10 = ((n / 10 : Nat) : Int) := by rw [Int.tdiv_eq_ediv_of_nonneg (by omega)]; omega
      have e2 : (n : Int).tmod 10 = ((n % 10 : Nat) : Int) := by rw [Int.tmod_eq_emod_of_nonneg (by omega)]; omega
      have s1 : (bstr (dg (n / 10))).size ≤ 10 := by rw [bstr_size]; exact dg_len20 (by omega)
      have s2 : (bstr (dg (n % 10))).size ≤ 10 := by rw [bstr_size]; exact dg_len20 (by omega)
      have HD := Aside0.mk (show bstr (dg (n / 10)) ++ bstr (dg (n % 10)) = bstr (dg n) by rw [bstr_app, dg_small (n := n % 10) (by omega), dg_big h])
      generalize bstr (dg (n / 10)) = A at HI HD s1
      generalize bstr (dg (n % 10)) = B at HJ HD s2
      rw [← HD.out]
      obtain ⟨z, hz⟩ : ∃ z : Int, z = (n : Int) := ⟨_, rfl⟩
      obtain ⟨q, hq⟩ : ∃ q : Int, q = ((n / 10 : Nat) : Int) := ⟨_, rfl⟩
      obtain ⟨r, hr⟩ : ∃ r : Int, r = ((n % 10 : Nat) : Int) := ⟨_, rfl⟩
      rw [← hz, ← hq] at e1
      rw [← hz, ← hr] at e2
      have HI := Aside0.mk (show ∀ W, Calls Try.prog 84 #[.int .i64 q] W fun e w' => e = .returned (.string A) ∧ Below W.heap.size W w' by rw [hq]; exact HI.out)
      have HJ := Aside0.mk (show ∀ W, Calls Try.prog 84 #[.int .i64 r] W fun e w' => e = .returned (.string B) ∧ Below W.heap.size W w' by rw [hr]; exact HJ.out)
      rw [← hz]
      have q1 : ¬ z < 10 := by omega
      have q2 : z ≤ 1000000000 := by omega
      have q3 : (0 : Int) ≤ z := by omega
      have e3 : z / 10 = q := by rw [← e1, Int.tdiv_eq_ediv_of_nonneg q3]
      have e4 : z % 10 = r := by rw [← e2, Int.tmod_eq_emod_of_nonneg q3]
      clear ih h hn hz hq hr HD
      go_enter Try.func84, Try.ntmps84
      go_wp2_with fail
      refine (HI.out _).mono ?_
      rintro e_ w1 ⟨rfl, hb⟩
      have HB := Aside0.mk hb
      clear hb
      go_wp2_with fail
      refine (HJ.out _).mono ?_
      rintro e_ w2 ⟨rfl, hb⟩
      have HB := Aside0.mk (below_then HB.out HB.out.size hb)
      clear hb
      go_wp2
      go_ret
      exact ⟨rfl, HB.out⟩
end Go.Proofs.Ytdifeleddhefnaa
