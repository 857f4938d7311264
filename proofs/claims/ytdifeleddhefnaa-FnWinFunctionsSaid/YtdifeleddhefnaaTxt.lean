/- The text of a duration: as the program writes it and as the reference does. -/
import Derived.Test.YtdifeleddhefnaaFmt
set_option linter.unusedVariables false
set_option linter.unusedSimpArgs false
namespace Go.Proofs.Ytdifeleddhefnaa
/-- What is left of a row of digits when the zeros at its end are taken off, one by one. -/
def strip (l : List Int) : List Int := (l.reverse.dropWhile (fun x => x == 48)).reverse
theorem strip_zero (l : List Int) : strip (l ++ [48]) = strip l := by
  unfold strip; rw [List.reverse_append]; rfl
theorem strip_else {l : List Int} {x : Int} (h : x ≠ 48) : strip (l ++ [x]) = l ++ [x] := by
  unfold strip; rw [List.reverse_append]
  show (List.dropWhile (fun x => x == 48) (x :: l.reverse)).reverse = _
  rw [List.dropWhile_cons_of_neg (by simpa using h)]; simp
theorem fr_tens (k v : Nat) (t : List Int) : fr (k + 1) (v * 10) false t = fr k v false t := by
  rw [fr_step, Nat.mul_mod_left, Nat.mul_div_cancel _ (by decide)]; rfl
theorem fr_six (v : Nat) (t : List Int) : fr 9 (v * 1000000) false t = fr 3 v false t := by
  rw [show v * 1000000 = v * 10 * 10 * 10 * 10 * 10 * 10 by omega, fr_tens, fr_tens, fr_tens, fr_tens, fr_tens, fr_tens]
/-- The three digits of a fraction. -/
def dig3 (r : Nat) : List Int := [48 + ((r / 100 : Nat) : Int), 48 + ((r / 10 % 10 : Nat) : Int), 48 + ((r % 10 : Nat) : Int)]
theorem dg_thou {r : Nat} (h : r < 1000) : dg (1000 + r) = 49 :: dig3 r := by
  rw [dg_big (by omega), dg_big (by omega), dg_big (by omega), dg_small (by omega)]
  unfold dig3
  rw [show (1000 + r) / 10 / 10 / 10 = 1 by omega, show (1000 + r) / 10 / 10 % 10 = r / 100 by omega, show (1000 + r) / 10 % 10 = r / 10 % 10 by omega, show (1000 + r) % 10 = r % 10 by omega]
  rfl
theorem fr_T (k v : Nat) (t : List Int) : fr (k + 1) v true t = fr k (v / 10) true ((((v % 10 : Nat) : Int) + 48) :: t) := by rw [fr_step]; rfl
theorem fr_F {k v : Nat} (t : List Int) (h : v % 10 ≠ 0) : fr (k + 1) v false t = fr k (v / 10) true ((((v % 10 : Nat) : Int) + 48) :: t) := by
  rw [fr_step, show (v % 10 != 0) = true by simpa using h]; rfl
theorem fr_Z {k v : Nat} (t : List Int) (h : v % 10 = 0) : fr (k + 1) v false t = fr k (v / 10) false t := by
  rw [fr_step, show (v % 10 != 0) = false by simpa using h]; rfl
theorem c48 (n : Nat) : ((n : Nat) : Int) + 48 = 48 + (n : Int) := Int.add_comm _ _
theorem n48 {n : Nat} (h : n ≠ 0) : (48 + (n : Int)) ≠ 48 := by omega
/-- The fraction as the program writes it is the fraction as the reference writes it. -/
theorem frac_ref (ms : Nat) : fracT (ms * 1000000) = if ms % 1000 = 0 then [115] else 46 :: (strip (dig3 (ms % 1000)) ++ [115]) := by
  unfold fracT
  rw [fr_six]
  have e0 : ms % 1000 % 10 = ms % 10 := by omega
  have e1 : ms % 1000 / 10 % 10 = ms / 10 % 10 := by omega
  have e2 : ms % 1000 / 100 = ms / 10 / 10 % 10 := by omega
  have hd : dig3 (ms % 1000) = [48 + ((ms / 10 / 10 % 10 : Nat) : Int), 48 + ((ms / 10 % 10 : Nat) : Int), 48 + ((ms % 10 : Nat) : Int)] := by unfold dig3; rw [e0, e1, e2]
  by_cases h0 : ms % 10 = 0
  · by_cases h1 : ms / 10 % 10 = 0
    · by_cases h2 : ms / 10 / 10 % 10 = 0
      · rw [fr_Z _ h0, fr_Z _ h1, fr_Z _ h2, if_pos (show ms % 1000 = 0 by omega)]
        rfl
      · rw [fr_Z _ h0, fr_Z _ h1, fr_F _ h2, if_neg (show ¬ ms % 1000 = 0 by omega), hd, h0, h1, c48]
        rw [show ([48 + ((ms / 10 / 10 % 10 : Nat) : Int), 48 + ((0 : Nat) : Int), 48 + ((0 : Nat) : Int)] : List Int) = ([48 + ((ms / 10 / 10 % 10 : Nat) : Int)] ++ [48]) ++ [48] from rfl, strip_zero, strip_zero]
        rw [show ([48 + ((ms / 10 / 10 % 10 : Nat) : Int)] : List Int) = [] ++ [48 + ((ms / 10 / 10 % 10 : Nat) : Int)] from rfl, strip_else (n48 h2)]
        rfl
    · rw [fr_Z _ h0, fr_F _ h1, fr_T, if_neg (show ¬ ms % 1000 = 0 by omega), hd, h0, c48, c48]
      rw [show ([48 + ((ms / 10 / 10 % 10 : Nat) : Int), 48 + ((ms / 10 % 10 : Nat) : Int), 48 + ((0 : Nat) : Int)] : List Int) = ([48 + ((ms / 10 / 10 % 10 : Nat) : Int)] ++ [48 + ((ms / 10 % 10 : Nat) : Int)]) ++ [48] from rfl, strip_zero, strip_else (n48 h1)]
      rfl
  · rw [fr_F _ h0, fr_T, fr_T, if_neg (show ¬ ms % 1000 = 0 by omega), hd, c48, c48, c48]
    rw [show ([48 + ((ms / 10 / 10 % 10 : Nat) : Int), 48 + ((ms / 10 % 10 : Nat) : Int), 48 + ((ms % 10 : Nat) : Int)] : List Int) = [48 + ((ms / 10 / 10 % 10 : Nat) : Int), 48 + ((ms / 10 % 10 : Nat) : Int)] ++ [48 + ((ms % 10 : Nat) : Int)] from rfl, strip_else (n48 h0)]
    rfl
/-- The text of the reference: so many milliseconds, at least 1. -/
def rtxt (ms : Nat) : List Int :=
  if ms < 1000 then dg ms ++ [109, 115]
  else
    let a := dg (ms / 1000 % 60) ++ (if ms % 1000 = 0 then [115] else 46 :: (strip (dig3 (ms % 1000)) ++ [115]))
    let b := if 60 ≤ ms / 1000 then dg (ms / 1000 / 60 % 60) ++ 109 :: a else a
    if 3600 ≤ ms / 1000 then dg (ms / 1000 / 3600) ++ 104 :: b else b
theorem dtxt_ref {ms : Nat} (h : 1 ≤ ms) : dtxt ms = rtxt ms := by
  unfold dtxt rtxt
  rw [if_neg (by omega)]
  by_cases h1 : ms < 1000
  · rw [if_pos h1, if_pos h1]
  · rw [if_neg h1, if_neg h1, frac_ref]
    by_cases h2 : 60 ≤ ms / 1000
    · by_cases h3 : 3600 ≤ ms / 1000
      · simp only []
        rw [if_neg (show ¬ ms / 1000 / 60 = 0 by omega), if_neg (show ¬ ms / 1000 / 60 / 60 = 0 by omega), if_pos h3, if_pos h2, show ms / 1000 / 60 / 60 = ms / 1000 / 3600 by omega]
      · simp only []
        rw [if_neg (show ¬ ms / 1000 / 60 = 0 by omega), if_pos (show ms / 1000 / 60 / 60 = 0 by omega), if_neg h3, if_pos h2]
    · simp only []
      rw [if_pos (show ms / 1000 / 60 = 0 by omega), if_neg (show ¬ 3600 ≤ ms / 1000 by omega), if_neg h2]
end Go.Proofs.Ytdifeleddhefnaa
