/- A duration as the reference writes it: the contract of winDuration. -/
import Derived.Test.YtdifeleddhefnaaDgs
set_option linter.unusedVariables false
set_option linter.unusedSimpArgs false
namespace Go.Proofs.Ytdifeleddhefnaa
open Go.RowKit Go.Proofs.YtdifeleddhefnaaW.PrintWords

theorem digC (n : Nat) (h : n ≤ 1000000000) (z : Int) (hz : z = (n : Int)) : ∀ W, Calls Try.prog 84 #[.int .i64 z] W fun e w' => e = .returned (.string (bstr (dg n))) ∧ Below W.heap.size W w' := fun W => by rw [hz]; exact digits_any n h W
theorem bstr_last (d : List Int) (x : Int) (h : d.length < (bstr (d ++ [x])).size) : (bstr (d ++ [x]))[d.length]'h = UInt8.ofNat x.toNat := by
  have e : (bstr (d ++ [x])).data.toList = d.map (fun n => UInt8.ofNat n.toNat) ++ [UInt8.ofNat x.toNat] := by
    show (strOfNums (d ++ [x])).data.toList = _
    rw [strOfNums_data, List.map_append]; rfl
  have h2 : (bstr (d ++ [x])).data.toList[d.length]? = some (UInt8.ofNat x.toNat) := by rw [e]; simp
  have h3 : (bstr (d ++ [x])).data.toList[d.length]? = some ((bstr (d ++ [x]))[d.length]'h) := by
    rw [Array.getElem?_toList]
    exact Array.getElem?_eq_getElem h
  rw [h2] at h3
  injection h3 with h3
  exact h3.symm
theorem bstr_cut (d : List Int) (x : Int) : (bstr (d ++ [x])).extract 0 d.length = bstr d := by
  apply ba_ext
  have e : (bstr (d ++ [x])).data.toList = (bstr d).data.toList ++ [UInt8.ofNat x.toNat] := by
    show (strOfNums (d ++ [x])).data.toList = (strOfNums d).data.toList ++ _
    rw [strOfNums_data, strOfNums_data, List.map_append]; rfl
  have hl : (bstr d).data.toList.length = d.length := by
    show (strOfNums d).data.toList.length = _
    rw [strOfNums_data, List.length_map]
  rw [ByteArray.data_extract, Array.toList_extract, e]
  simp [hl]
def NZ (d : List Int) : Prop := (∃ x ∈ d, x ≠ 48) ∧ ∀ x ∈ d, 48 ≤ x ∧ x ≤ 57
theorem NZ.pos {d : List Int} (h : NZ d) : 0 < d.length := by
  obtain ⟨⟨x, hx, _⟩, _⟩ := h
  exact List.length_pos_of_mem hx
theorem NZ.cut {d : List Int} (h : NZ (d ++ [48])) : NZ d := by
  obtain ⟨⟨x, hx, hn⟩, hr⟩ := h
  refine ⟨⟨x, ?_, hn⟩, fun y hy => hr y (List.mem_append_left _ hy)⟩
  rcases List.mem_append.1 hx with hx | hx
  · exact hx
  · exact absurd (List.mem_singleton.1 hx) hn
theorem dig3_nz {r : Nat} (h : r < 1000) (h0 : 0 < r) : NZ (dig3 r) := by
  unfold dig3
  refine ⟨?_, ?_⟩
  · by_cases a : r / 100 = 0
    · by_cases b : r / 10 % 10 = 0
      · exact ⟨48 + ((r % 10 : Nat) : Int), by simp, by omega⟩
      · exact ⟨48 + ((r / 10 % 10 : Nat) : Int), by simp, by omega⟩
    · exact ⟨48 + ((r / 100 : Nat) : Int), by simp, by omega⟩
  · intro x hx
    simp only [List.mem_cons, List.not_mem_nil, or_false] at hx
    rcases hx with rfl | rfl | rfl <;> omega
theorem u8_last {x : Int} (h1 : 48 ≤ x) (h2 : x ≤ 57) : (((UInt8.ofNat x.toNat).toNat : Nat) : Int) = x := by
  rw [UInt8.toNat_ofNat']
  omega
/-- Seconds with their fraction. -/
def rsec (ms : Nat) : List Int := dg (ms / 1000 % 60) ++ (if ms % 1000 = 0 then [115] else 46 :: (strip (dig3 (ms % 1000)) ++ [115]))
theorem rtxt_1 {ms : Nat} (h : 1000 ≤ ms) (h1 : ¬ 60 ≤ ms / 1000) : rtxt ms = rsec ms := by
  unfold rtxt; rw [if_neg (by omega)]; simp only []; rw [if_neg (by omega), if_neg h1]; rfl
theorem rtxt_2 {ms : Nat} (h : 1000 ≤ ms) (h1 : 60 ≤ ms / 1000) (h2 : ¬ 3600 ≤ ms / 1000) : rtxt ms = dg (ms / 1000 / 60 % 60) ++ 109 :: rsec ms := by
  unfold rtxt; rw [if_neg (by omega)]; simp only []; rw [if_neg h2, if_pos h1]; rfl
theorem rtxt_3 {ms : Nat} (h : 1000 ≤ ms) (h1 : 60 ≤ ms / 1000) (h2 : 3600 ≤ ms / 1000) : rtxt ms = dg (ms / 1000 / 3600) ++ 104 :: (dg (ms / 1000 / 60 % 60) ++ 109 :: rsec ms) := by
  unfold rtxt; rw [if_neg (by omega)]; simp only []; rw [if_pos h2, if_pos h1]; rfl
theorem bstr_cons (l : List Int) (t : List Int) (b : ByteArray) (x : Int) (hb : b = bstr [x]) : bstr l ++ b ++ bstr t = bstr (l ++ x :: t) := by
  rw [hb, bstr_app, bstr_app]; simp
theorem strip_len (l : List Int) : (strip l).length ≤ l.length := by
  unfold strip
  rw [List.length_reverse]
  have h := (List.dropWhile_sublist (fun x => x == (48 : Int)) (l := l.reverse)).length_le
  rw [List.length_reverse] at h
  exact h
theorem rsec_len (ms : Nat) : (rsec ms).length ≤ 20 := by
  unfold rsec
  have h1 := dg_le2 (n := ms / 1000 % 60) (by omega)
  split
  · simp; omega
  · have h2 := strip_len (dig3 (ms % 1000))
    have h3 : (dig3 (ms % 1000)).length = 3 := rfl
    simp; omega
theorem dur_small (ms : Nat) (h1 : ms < 1000) (w : World) : Calls Try.prog 71 #[.int .i64 ms] w fun e w' => e = .returned (.string (bstr (rtxt ms))) ∧ Below w.heap.size w w' := by
  have HC := Aside0.mk (digC ms (by omega) (ms : Int) rfl)
  have s1 : (bstr (dg ms)).size ≤ 10 := by rw [bstr_size]; exact dg_len20 (by omega)
  have HD := Aside0.mk (show bstr (dg ms) ++ ⟨#[109, 115]⟩ = bstr (rtxt ms) by
    unfold rtxt; rw [if_pos h1, ← bstr_app]; rfl)
  rw [← HD.out]
  generalize bstr (dg ms) = A at HC s1
  obtain ⟨z, hz⟩ : ∃ z : Int, z = (ms : Int) := ⟨_, rfl⟩
  rw [← hz] at HC ⊢
  have q1 : z < 1000 := by omega
  clear hz h1 HD
  go_enter Try.func71, Try.ntmps71
  go_wp2_with fail
  refine (HC.out _).mono ?_
  rintro e_ w1 ⟨rfl, hb⟩
  have HB := Aside0.mk hb
  clear hb
  go_wp2
  go_ret
  exact ⟨rfl, HB.out⟩
set_option maxRecDepth 100000 in
set_option maxHeartbeats 4000000 in
theorem dur_big (ms : Nat) (h0 : 1000 ≤ ms) (h1 : ms ≤ 1000000000) (w : World) : Calls Try.prog 71 #[.int .i64 ms] w fun e w' => e = .returned (.string (bstr (rtxt ms))) ∧ Below w.heap.size w w' := by
  obtain ⟨z, hz⟩ : ∃ z : Int, z = (ms : Int) := ⟨_, rfl⟩
  obtain ⟨s, hs⟩ : ∃ s : Int, s = ((ms / 1000 : Nat) : Int) := ⟨_, rfl⟩
  obtain ⟨r, hr⟩ : ∃ r : Int, r = ((ms / 1000 % 60 : Nat) : Int) := ⟨_, rfl⟩
  obtain ⟨t, ht⟩ : ∃ t : Int, t = ((ms % 1000 : Nat) : Int) := ⟨_, rfl⟩
  have HA := Aside0.mk (digC (ms / 1000 % 60) (by omega) r hr)
  have s1 : (bstr (dg (ms / 1000 % 60))).size ≤ 10 := by rw [bstr_size]; exact dg_len20 (by omega)
  have e1 : z / 1000 = s := by omega
  have e2 : s % 60 = r := by omega
  have e3 : z % 1000 = t := by omega
  have HZ := Aside0.mk (And.intro hz (And.intro hs ht))
  have H01 := Aside0.mk (And.intro h0 h1)
  have q1 : ¬ z < 1000 := by omega
  have q2 : z ≤ 1000000000 := by omega
  have q3 : 0 ≤ z := by omega
  have q4 : 0 ≤ s := by omega
  have q5 : s ≤ 1000000 := by omega
  have q6 : 0 ≤ t := by omega
  have q7 : t < 1000 := by omega
  rw [← hz]
  generalize hA : bstr (dg (ms / 1000 % 60)) = A at HA s1
  have HAA := Aside0.mk hA
  clear hz hs hr ht h0 h1 hA
  go_enter Try.func71, Try.ntmps71
  go_wp2_with fail
  refine (HA.out _).mono ?_
  rintro e_ w1 ⟨rfl, hb⟩
  have HB := Aside0.mk hb
  clear hb
  by_cases ht0 : 0 < t
  · have HG := Aside0.mk (digC (1000 + ms % 1000) (by omega) (1000 + t) (by have := HZ.out.2.2; omega))
    rw [dg_thou (r := ms % 1000) (by omega)] at HG
    have HGS := Aside0.mk (bstr_size (49 :: dig3 (ms % 1000)))
    have HGX := Aside0.mk (show (bstr (49 :: dig3 (ms % 1000))).extract 1 4 = bstr (dig3 (ms % 1000)) by
      apply ba_ext
      rfl)
    generalize bstr (49 :: dig3 (ms % 1000)) = G at HG HGS HGX
    have g4 : G.size = 4 := HGS.out
    go_wp2_with fail
    refine (HG.out _).mono ?_
    rintro e_ w2 ⟨rfl, hb⟩
    have HB := Aside0.mk (below_then HB.out HB.out.size hb)
    clear hb
    go_wp2_with fail
    rw [HGX.out]
    have HNZ := Aside0.mk (dig3_nz (r := ms % 1000) (by omega) (by have := HZ.out.2.2; omega))
    have HL3 := Aside0.mk (show (dig3 (ms % 1000)).length = 3 from rfl)
    obtain ⟨D0, hD0⟩ : ∃ D0, dig3 (ms % 1000) = D0 := ⟨_, rfl⟩
    rw [hD0] at HNZ HL3 ⊢
    have HD3 := Aside0.mk hD0
    clear hD0
    go_loopg [6] 3 (fun kq v6 w' => ∃ d : List Int, Aside0 (kq = d.length) ∧ v6 = .string (bstr d) ∧ Aside0 (strip d = strip D0) ∧ Aside0 (NZ d) ∧ w2 = w' ∧ d.length ≤ 3)
    case atStart => exact ⟨D0, ⟨HL3.out.symm⟩, rfl, ⟨rfl⟩, HNZ, rfl, by have := HL3.out; omega⟩
    case round =>
      clear HNZ
      obtain ⟨d, hq, rfl, HSTR, HNZ, rfl, hd3⟩ := hrel
      obtain ⟨d', x, rfl⟩ : ∃ d' x, d = d' ++ [x] := ⟨d.dropLast, d.getLast (by have := HNZ.out.pos; intro h; subst h; simp at this), (List.dropLast_concat_getLast _).symm⟩
      have hx := HNZ.out.2 x (by simp)
      have HBL := Aside0.mk (bstr_last d' x)
      have HBC := Aside0.mk (bstr_cut d' x)
      have hsz := bstr_size (d' ++ [x])
      rw [List.length_append, List.length_singleton] at hsz hd3
      have HUL := Aside0.mk (u8_last hx.1 hx.2)
      by_cases hx48 : x = 48
      · subst hx48
        have hlast : ∀ h, (bstr (d' ++ [48]))[d'.length]'h = 48 := fun h => (HBL.out h).trans (by decide)
        have HSS := Aside0.mk (strip_zero d')
        have HNZ := Aside0.mk HNZ.out.cut
        generalize bstr (d' ++ [48]) = SS at hlast hsz HBC
        go_wp2_with fail
        go_roundg (d'.length)
        case measure => have := hq.out; simp at this; omega
        case rel => exact ⟨d', ⟨rfl⟩, by rw [HBC.out], ⟨by rw [← HSS.out]; exact HSTR.out⟩, HNZ, rfl, by omega⟩
      · have hlast := HBL.out
        have HXX := Aside0.mk (show strip (d' ++ [x]) = d' ++ [x] from strip_else hx48)
        have hne : ((((UInt8.ofNat x.toNat).toNat : Nat) : Int) == 48) = false := by rw [HUL.out]; exact beq_eq_false_iff_ne.2 hx48
        have HSX := Aside0.mk (show bstr (d' ++ [x]) = bstr (strip (dig3 (ms % 1000))) by rw [HD3.out, ← HSTR.out, HXX.out])
        generalize bstr (d' ++ [x]) = SS at hlast hsz HBC HSX
        generalize UInt8.ofNat x.toNat = lb at hlast hne
        have h48 : ¬ lb = 48 := by rintro rfl; simp at hne
        have h48b : (lb == 48) = false := beq_eq_false_iff_ne.2 h48
        have HU := Aside0.mk (show A ++ (⟨#[46]⟩ ++ SS) ++ ⟨#[115]⟩ = bstr (rsec ms) by rw [HSX.out, ← HAA.out, show (⟨#[115]⟩ : ByteArray) = bstr [115] from rfl, show (⟨#[46]⟩ : ByteArray) = bstr [46] from rfl, bstr_app, bstr_app, bstr_app]; unfold rsec; rw [if_neg (show ¬ ms % 1000 = 0 by have := HZ.out.2.2; omega)]; simp)
        have HTS := Aside0.mk (show (A ++ (⟨#[46]⟩ ++ SS)).size ≤ 30 by have h := congrArg ByteArray.size HU.out; rw [ByteArray.size_append, bstr_size] at h; have := rsec_len ms; omega)
        have HR1 := Aside0.mk (rtxt_1 H01.out.1)
        have HR2 := Aside0.mk (rtxt_2 H01.out.1)
        have HR3 := Aside0.mk (rtxt_3 H01.out.1)
        have HUS := Aside0.mk (show (bstr (rsec ms)).size ≤ 20 by rw [bstr_size]; exact rsec_len ms)
        have t1 : (A ++ (⟨#[46]⟩ ++ SS)).size ≤ 30 := HTS.out
        generalize rsec ms = RS at HU HR1 HR2 HR3 HUS
        have t2 := HUS.out
        have HU2 := HU
        by_cases c60 : 60 ≤ s
        · have hm : (0 : Int) ≤ s / 60 % 60 := by omega
          obtain ⟨m, hm_⟩ : ∃ m : Int, m = ((ms / 1000 / 60 % 60 : Nat) : Int) := ⟨_, rfl⟩
          have e5 : s / 60 % 60 = m := by have := HZ.out.2.1; omega
          have HM := Aside0.mk (digC (ms / 1000 / 60 % 60) (by omega) m hm_)
          have HMS := Aside0.mk (show (bstr (dg (ms / 1000 / 60 % 60))).size ≤ 10 by rw [bstr_size]; exact dg_len20 (by omega))
          have HCM := Aside0.mk (bstr_cons (dg (ms / 1000 / 60 % 60)) RS ⟨#[109]⟩ 109 rfl)
          have n60 : 60 ≤ ms / 1000 := by have := HZ.out.2.1; omega
          have HR2 := Aside0.mk (HR2.out n60)
          have HR3 := Aside0.mk (HR3.out n60)
          generalize hB : bstr (dg (ms / 1000 / 60 % 60)) = MB at HM HMS HCM
          have t3 := HMS.out
          by_cases c36 : 3600 ≤ s
          · obtain ⟨hh, hh_⟩ : ∃ hh : Int, hh = ((ms / 1000 / 3600 : Nat) : Int) := ⟨_, rfl⟩
            have e6 : s / 3600 = hh := by have := HZ.out.2.1; omega
            have HH := Aside0.mk (digC (ms / 1000 / 3600) (by have := H01.out.2; omega) hh hh_)
            have HHS := Aside0.mk (show (bstr (dg (ms / 1000 / 3600))).size ≤ 10 by rw [bstr_size]; exact dg_len20 (by have := H01.out.2; omega))
            have HCH := Aside0.mk (bstr_cons (dg (ms / 1000 / 3600)) (dg (ms / 1000 / 60 % 60) ++ 109 :: RS) ⟨#[104]⟩ 104 rfl)
            have HF := Aside0.mk (show bstr (dg (ms / 1000 / 3600)) ++ ⟨#[104]⟩ ++ (MB ++ ⟨#[109]⟩ ++ ((A ++ (⟨#[46]⟩ ++ SS)) ++ ⟨#[115]⟩)) = bstr (rtxt ms) by rw [HU.out, HCM.out, HCH.out, HR3.out (by have := HZ.out.2.1; omega)])
            have HFS := Aside0.mk (show (MB ++ ⟨#[109]⟩ ++ ((A ++ (⟨#[46]⟩ ++ SS)) ++ ⟨#[115]⟩)).size ≤ 50 by rw [ByteArray.size_append, ByteArray.size_append, ByteArray.size_append]; have e1 : (⟨#[109]⟩ : ByteArray).size = 1 := rfl; have e2 : (⟨#[115]⟩ : ByteArray).size = 1 := rfl; omega)
            generalize bstr (dg (ms / 1000 / 3600)) = HBS at HH HHS HF HCH
            have t4 := HHS.out
            clear hB hm_ hh_ n60 hm HCH HCM
            go_wp2_with fail
            refine (HM.out _).mono ?_
            rintro e_ w5 ⟨rfl, hb⟩
            have HB := Aside0.mk (below_then HB.out HB.out.size hb)
            clear hb
            go_wp2_with fail
            refine (HH.out _).mono ?_
            rintro e_ w6 ⟨rfl, hb⟩
            have HB := Aside0.mk (below_then HB.out HB.out.size hb)
            clear hb
            have t5 := HFS.out
            go_wp2
            go_ret
            exact ⟨by rw [← HF.out]; rfl, HB.out⟩
          · have HF := Aside0.mk (show MB ++ ⟨#[109]⟩ ++ ((A ++ (⟨#[46]⟩ ++ SS)) ++ ⟨#[115]⟩) = bstr (rtxt ms) by rw [HU.out, HCM.out, HR2.out (by have := HZ.out.2.1; omega)])
            clear hB hm_ n60 hm HCM
            go_wp2_with fail
            refine (HM.out _).mono ?_
            rintro e_ w5 ⟨rfl, hb⟩
            have HB := Aside0.mk (below_then HB.out HB.out.size hb)
            clear hb
            go_wp2
            go_ret
            exact ⟨by rw [← HF.out]; rfl, HB.out⟩
        · have c36 : ¬ 3600 ≤ s := by omega
          have HF := Aside0.mk (show (A ++ (⟨#[46]⟩ ++ SS)) ++ ⟨#[115]⟩ = bstr (rtxt ms) by rw [HU.out, HR1.out (by have := HZ.out.2.1; omega)])
          go_wp2
          go_ret
          exact ⟨by rw [← HF.out]; rfl, HB.out⟩
  · have HU := Aside0.mk (show A ++ ⟨#[115]⟩ = bstr (rsec ms) by rw [← HAA.out, show (⟨#[115]⟩ : ByteArray) = bstr [115] from rfl, bstr_app]; unfold rsec; rw [if_pos (show ms % 1000 = 0 by have := HZ.out.2.2; omega)])
    have HTS := Aside0.mk (show (A).size ≤ 30 by have h := congrArg ByteArray.size HU.out; rw [ByteArray.size_append, bstr_size] at h; have := rsec_len ms; omega)
    have HR1 := Aside0.mk (rtxt_1 H01.out.1)
    have HR2 := Aside0.mk (rtxt_2 H01.out.1)
    have HR3 := Aside0.mk (rtxt_3 H01.out.1)
    have HUS := Aside0.mk (show (bstr (rsec ms)).size ≤ 20 by rw [bstr_size]; exact rsec_len ms)
    have t1 : (A).size ≤ 30 := HTS.out
    generalize rsec ms = RS at HU HR1 HR2 HR3 HUS
    have t2 := HUS.out
    have HU2 := HU
    by_cases c60 : 60 ≤ s
    · have hm : (0 : Int) ≤ s / 60 % 60 := by omega
      obtain ⟨m, hm_⟩ : ∃ m : Int, m = ((ms / 1000 / 60 % 60 : Nat) : Int) := ⟨_, rfl⟩
      have e5 : s / 60 % 60 = m := by have := HZ.out.2.1; omega
      have HM := Aside0.mk (digC (ms / 1000 / 60 % 60) (by omega) m hm_)
      have HMS := Aside0.mk (show (bstr (dg (ms / 1000 / 60 % 60))).size ≤ 10 by rw [bstr_size]; exact dg_len20 (by omega))
      have HCM := Aside0.mk (bstr_cons (dg (ms / 1000 / 60 % 60)) RS ⟨#[109]⟩ 109 rfl)
      have n60 : 60 ≤ ms / 1000 := by have := HZ.out.2.1; omega
      have HR2 := Aside0.mk (HR2.out n60)
      have HR3 := Aside0.mk (HR3.out n60)
      generalize hB : bstr (dg (ms / 1000 / 60 % 60)) = MB at HM HMS HCM
      have t3 := HMS.out
      by_cases c36 : 3600 ≤ s
      · obtain ⟨hh, hh_⟩ : ∃ hh : Int, hh = ((ms / 1000 / 3600 : Nat) : Int) := ⟨_, rfl⟩
        have e6 : s / 3600 = hh := by have := HZ.out.2.1; omega
        have HH := Aside0.mk (digC (ms / 1000 / 3600) (by have := H01.out.2; omega) hh hh_)
        have HHS := Aside0.mk (show (bstr (dg (ms / 1000 / 3600))).size ≤ 10 by rw [bstr_size]; exact dg_len20 (by have := H01.out.2; omega))
        have HCH := Aside0.mk (bstr_cons (dg (ms / 1000 / 3600)) (dg (ms / 1000 / 60 % 60) ++ 109 :: RS) ⟨#[104]⟩ 104 rfl)
        have HF := Aside0.mk (show bstr (dg (ms / 1000 / 3600)) ++ ⟨#[104]⟩ ++ (MB ++ ⟨#[109]⟩ ++ ((A) ++ ⟨#[115]⟩)) = bstr (rtxt ms) by rw [HU.out, HCM.out, HCH.out, HR3.out (by have := HZ.out.2.1; omega)])
        have HFS := Aside0.mk (show (MB ++ ⟨#[109]⟩ ++ ((A) ++ ⟨#[115]⟩)).size ≤ 50 by rw [ByteArray.size_append, ByteArray.size_append, ByteArray.size_append]; have e1 : (⟨#[109]⟩ : ByteArray).size = 1 := rfl; have e2 : (⟨#[115]⟩ : ByteArray).size = 1 := rfl; omega)
        generalize bstr (dg (ms / 1000 / 3600)) = HBS at HH HHS HF HCH
        have t4 := HHS.out
        clear hB hm_ hh_ n60 hm HCH HCM
        go_wp2_with fail
        refine (HM.out _).mono ?_
        rintro e_ w5 ⟨rfl, hb⟩
        have HB := Aside0.mk (below_then HB.out HB.out.size hb)
        clear hb
        go_wp2_with fail
        refine (HH.out _).mono ?_
        rintro e_ w6 ⟨rfl, hb⟩
        have HB := Aside0.mk (below_then HB.out HB.out.size hb)
        clear hb
        have t5 := HFS.out
        go_wp2
        go_ret
        exact ⟨by rw [← HF.out]; rfl, HB.out⟩
      · have HF := Aside0.mk (show MB ++ ⟨#[109]⟩ ++ ((A) ++ ⟨#[115]⟩) = bstr (rtxt ms) by rw [HU.out, HCM.out, HR2.out (by have := HZ.out.2.1; omega)])
        clear hB hm_ n60 hm HCM
        go_wp2_with fail
        refine (HM.out _).mono ?_
        rintro e_ w5 ⟨rfl, hb⟩
        have HB := Aside0.mk (below_then HB.out HB.out.size hb)
        clear hb
        go_wp2
        go_ret
        exact ⟨by rw [← HF.out]; rfl, HB.out⟩
    · have c36 : ¬ 3600 ≤ s := by omega
      have HF := Aside0.mk (show (A) ++ ⟨#[115]⟩ = bstr (rtxt ms) by rw [HU.out, HR1.out (by have := HZ.out.2.1; omega)])
      go_wp2
      go_ret
      exact ⟨by rw [← HF.out]; rfl, HB.out⟩
end Go.Proofs.Ytdifeleddhefnaa
