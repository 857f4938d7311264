/- Contracts and plain laws, several texts in one. -/
import Derived.Test.YtgdbeiadlgkedaaGreatDoorMWindowsBack5
import Derived.Test.YtgdbeiadlgkedaaGreatDoorMWindowsBack6
import Derived.WideLaws
import Derived.Deep.Slices
import Derived.Deep.Strs
import Derived.RowKit
import Derived.ChangeArms
set_option linter.unusedVariables false
set_option linter.unusedSimpArgs false
namespace Go.Proofs.YtgdbeiadlgkedaaGreatDoor
open Go.RowKit PFnWindowOne Go.Proofs.YtgdbeiadlgkedaaGreatDoorW.PrintWords
theorem mthF_1 (a : Nat) : ∀ W : World, (nilAhead 95 199 (.pointer (some ⟨a, 0, none⟩)) "Decode").run Tryz.prog W = .ok (some false) W := fun _ => by kernel_rfl
theorem nz_id {l : List S23} (h : ∀ x ∈ l, x.f0 = false) : l.map nz = l := by
  induction l with
  | nil => rfl
  | cons x l ih => rw [List.map_cons, ih (fun y hy => h y (List.mem_cons_of_mem _ hy))]; unfold nz; rw [h x List.mem_cons_self]; rfl
theorem rdWins_f0 : ∀ (n : Nat) (l : List UInt8) (xs : List S23) (q : Nat), rdWins n l = some (xs, q) → xs.length = n ∧ ∀ x ∈ xs, x.f0 = false
  | 0, l, xs, q, h => by simp [rdWins] at h; obtain ⟨rfl, rfl⟩ := h; simp
  | n + 1, l, xs, q, h => by
    obtain ⟨x, k, ys, q', h1, h2, rfl, rfl⟩ := rdWins_ok h
    obtain ⟨e, f⟩ := rdWins_f0 n _ ys q' h2
    obtain ⟨_, v, k', _, hx, _⟩ := rdWin_some h1
    refine ⟨by rw [List.length_cons, e], fun y hy => ?_⟩
    rcases List.mem_cons.1 hy with rfl | hy
    · rw [hx]
    · exact f y hy
set_option maxHeartbeats 8000000 in
set_option maxRecDepth 100000 in
theorem decWins_1_ok (B : Nat) (pe pl : Addr) (t : ByteArray) (w : World) (ht : t.size ≤ 4294967296) (he : Env B pe pl w) (hB : B ≤ w.heap.size) (n : Nat) (hi : 0 + 4 ≤ t.data.toList.length) (hn : wrap32 (Lib.beNat ((t.data.toList.drop 0).take 4) : Nat) = (n : Int)) (hn2 : n ≤ 10000) (xs : List S23) (q0 m : Nat) (hx : rdWins n (t.data.toList.drop (0 + 4)) = some (xs, q0)) (hm : 0 + 4 + q0 = m) :
    Calls Tryz.prog 17 #[.int .i64 1, .string t] w fun x w' => ∃ (A : Option Addr) (c : Nat), x = .returned (.tuple #[.slice A (xs).length c, .int .i64 (m : Nat), .string ⟨#[]⟩]) ∧ Kd.C k23 w' A (xs).length ((xs).map nz) ∧ (xs).length ≤ c ∧ Below w.heap.size w w' := by
  have kc := conv_bytes
  have HT := Lib.hid (And.intro ht (And.intro he hB))
  have hxl := (rdWins_f0 n _ xs q0 hx).1
  have HY := Lib.hid (fun (r : Nat) (W : World) (h : Rd r w.heap.size t.data.toList 0 W) (he : Env B pe pl W) (hBr : B ≤ r) (hB : B ≤ W.heap.size) (a : Option Addr) => decAll_ok B pe pl a r w.heap.size t.data.toList 0 W h he hBr hB hi n hn hn2 xs q0 hx)
  rw [hm] at HY
  subst hxl
  have HN := Lib.hid hn2
  have qm := mthF_1
  clear ht he hB hi hn hn2 hx hm
  go_enter Tryz.func17, Tryz.ntmps17
  go_wp2_with (first
    | (go_at_call 42; go_loud (refine (newRd_any w w.heap.size rfl t HT.out.1).mono ?_; rintro e_ w1 ⟨r, rfl, hr1, hr2, hr3⟩; have HS := Lib.hid (And.intro hr1 (And.intro hr2 hr3)); clear hr1 hr2 hr3))
    | (go_at_call 39; go_loud (refine (wcoder_1 _).mono ?_; rintro e_ w2 ⟨rfl, hw⟩; have hb : Below w1.heap.size w1 w2 := (by rw [hw]; exact (Below.refl _ _).alloc (Nat.le_refl _) _); have HC2 := Lib.hid (show w2.heap[w1.heap.size]? = some (.cells #[.string iwc, .string ⟨#[]⟩] 182 (0, 0)) by rw [hw]; exact heap_alloc_new w1 _); have HB2 := Lib.hid hb; clear hw hb))
    | (go_at_call 43; go_loud (refine (wdec_1 w1.heap.size w2 HC2.out).mono ?_; rintro e_ w3 ⟨rfl, hw⟩; have hb : Below w1.heap.size w1 w3 := (by rw [hw]; exact HB2.out.alloc HB2.out.size _); have HB3 := Lib.hid (And.intro hb (below_then HS.out.2.1 HS.out.2.1.size hb)); clear hw hb))
    | (go_at_call 159; go_loud (refine (HY.out r w3 (HS.out.1.below HB3.out.1) (HT.out.2.1.below (HB3.out.2.mono HT.out.2.2)) (Nat.le_trans HT.out.2.2 (Nat.le_of_lt HS.out.2.2)) (Nat.le_trans HT.out.2.2 HB3.out.2.size) _).mono ?_; rintro e_ w4 ⟨gb, rfl, hrow, _, _, hg, hrd⟩; have HC4 := Lib.hid (hrow.C (Nat.le_trans HN.out (by decide))); have HR4 := Lib.hid hrd; have HL4 := Lib.hid (show (xs).length * 24 ≤ 140737488351232 by have := HN.out; omega); have HB4 := Lib.hid (HB3.out.2.trans (grown_below hg HB3.out.2.size (Nat.le_of_lt HS.out.2.2))); clear hrow hg hrd))
    | (go_at_call 50; go_loud (refine (backWins_any _ _ xs w4 HC4.out (Nat.le_refl _) HL4.out).mono ?_; rintro e_ w5 ⟨v5, rfl, hR, hb⟩; obtain ⟨A5, c5, e5⟩ := Kd.R_slice hR; subst e5; have hR5 := (Kd.R_reads' hR).2; rw [List.length_map] at hR5; (try rw [List.length_map]); have HC5 := Lib.hid hR5; have HB5 := Lib.hid (below_then HB4.out HB4.out.size hb); have HR5 := Lib.hid (HR4.out.below hb); clear hb hR hR5; have qs : (t.size : Int) - ((t.data.toList.length - m : Nat) : Int) = (m : Nat) := (by have h1 := HR5.out.le; have h2 : t.data.toList.length = t.size := (by rw [Array.length_toList]; rfl); omega); have qs2 : IntKind.i64.wrap ((m : Nat) : Int) = (m : Nat) := IntWalk.i64_in _ (by have := HR5.out.le; have := HR5.out.len; omega); obtain ⟨L, hL⟩ : ∃ L, Hid (t.data.toList.length - m = L) := ⟨_, Lib.hid rfl⟩; rw [hL.out] at qs))
    | (go_at_call 44; go_loud (refine (len_any r w.heap.size t.data.toList m _ HR5.out).mono ?_; rw [hL.out]; rintro e_ w6 ⟨rfl, q, rfl⟩))
    | (go_at_call 41; go_loud (refine (word_nil _).mono ?_; rintro e_ w7 ⟨rfl, rfl⟩)))
  go_ret3
  exact ⟨A5, c5, rfl, Kd.C_drewN HC5.out.2 q, HC5.out.1, below_drewN HB5.out q⟩
end Go.Proofs.YtgdbeiadlgkedaaGreatDoor
set_option linter.unusedVariables false
set_option linter.unusedSimpArgs false
namespace Go.Proofs.YtgdbeiadlgkedaaGreatDoor
open Go.RowKit PFnWindowOne Go.Proofs.YtgdbeiadlgkedaaGreatDoorW.PrintWords
def winsB (l : List S23) : List UInt8 := l.flatMap fun x => wbytes x.f1 x.f2
theorem winsB_len : ∀ l : List S23, (winsB l).length ≤ 18 * l.length
  | [] => by simp [winsB]
  | x :: l => by
    have h1 := winsB_len l
    have h2 := wbytes_len x.f1 x.f2
    unfold winsB at h1 ⊢
    rw [List.flatMap_cons, List.length_append, List.length_cons]
    omega
theorem winsB_snoc (l : List S23) (k : Nat) (h : k < l.length) : winsB (l.take (k + 1)) = winsB (l.take k) ++ wbytes (rdN l k).f1 (rdN l k).f2 := by
  rw [take_succ l k h]; simp [winsB]
theorem R_others {w w' : World} {base b : Nat} {v : Value} {l : List S23} (h : Kd.R kIf 88 w base (fun _ => True) v l) (hk : Lib.OthersKept 5 (some b) w w') (hb : b < base) : Kd.R kIf 88 w' base (fun _ => True) v l :=
  Kd.R_mono (Kd.R_move (Kd.R_bound h) (fun k hk1 => by
    obtain ⟨_, h1, h2, q, hq, cells, hc⟩ := hk1
    have hq' : q = 88 := by simpa [kIf, Kd.scalar] using hq
    subst hq'
    exact (hk k _ hc (by intro e; cases e; omega) (by intro c fz e; cases e)).trans hc.symm)) (fun _ _ => trivial)
theorem others_trans {t : Nat} {g : Option Nat} {w w1 w2 : World} (h : Lib.OthersKept t g w w1) (k : Lib.OthersKept t g w1 w2) : Lib.OthersKept t g w w2 :=
  fun i o hi hg ho => k i o (h i o hi hg ho) hg ho
theorem ifv_win {x : S23} (h : x.f0 = false) : ifv x = winI x.f1 x.f2 := by unfold ifv; rw [h]; rfl
set_option maxHeartbeats 4000000 in
set_option maxRecDepth 100000 in
theorem encAll_1 (B b base : Nat) (a : Option Addr) (l : List S23) (hok : ∀ x ∈ l, okS (toS x)) (hl : l.length ≤ 20) (A : Option Addr) (c : Nat) (pre : List UInt8) (w : World) (h : Bf B b pre w) (hB : B ≤ w.heap.size) (hb : b < base) (hR : Kd.R kIf 88 w base (fun _ => True) (.slice A l.length c) l) (hlim : pre.length + 400 ≤ 140737488355328) :
    Calls Tryz.prog 148 #[.pointer a, .slice A l.length c, bfI b] w fun x w' => x = .returned .nilIface ∧ Bf B b (pre ++ Lib.beBytes 4 l.length ++ winsB l) w' ∧ Below B w w' ∧ Lib.OthersKept 5 (some b) w w' := by
  have hC := encI32_k B b (l.length : Int) pre w h (by omega)
  have e1 : ((l.length : Int) % 4294967296).toNat = l.length := by omega
  rw [e1] at hC
  have HC := Lib.hid hC
  have HR := Lib.hid hR
  have HK := Lib.hid (And.intro hB (And.intro hb (And.intro hlim hl)))
  have HOK := Lib.hid hok
  have q1 : IntKind.i32.wrap (l.length : Int) = (l.length : Int) := by rw [IntKind.wrap_i32]; omega
  have q2 : wrap32 (l.length : Int) = (l.length : Int) := by unfold wrap32; omega
  clear h hB hb hR hlim hC e1 hok
  go_enter Tryz.func148, Tryz.ntmps148
  go_wp2_with (go_at_call 69; go_loud (refine HC.out.mono ?_; rintro e_ w1 ⟨rfl, h1, h2, h3⟩; have H0 := Lib.hid (And.intro h1 (And.intro h2 h3)); clear h1 h2 h3))
  have H1 : Hid (Bf B b (pre ++ Lib.beBytes 4 l.length ++ winsB (l.take 0)) w1 ∧ Below B w w1 ∧ Lib.OthersKept 5 (some b) w w1) := Lib.hid (by have := H0.out; rwa [show winsB (l.take 0) = [] from rfl, List.append_nil])
  clear H0 q1 q2 HC
  go_loopg [21] l.length (fun kq v21 w' => ∃ k : Nat, k ≤ l.length ∧ Aside0 (kq = l.length - k) ∧ v21 = .int .i64 k ∧ Hid (Bf B b (pre ++ Lib.beBytes 4 l.length ++ winsB (l.take k)) w' ∧ Below B w w' ∧ Lib.OthersKept 5 (some b) w w'))
  case atStart => exact ⟨0, Nat.zero_le _, ⟨by simp⟩, rfl, H1⟩
  case round =>
    clear H1
    obtain ⟨k, hk, hq, rfl, H1⟩ := hrel
    by_cases hlt : k < l.length
    · have HR1 := Lib.hid (R_others HR.out H1.out.2.2 HK.out.2.1)
      obtain ⟨ad, e104, hx0⟩ := atIf (Kd.R_reads' HR1.out).2.2 k hlt
      cases e104
      have hmem : rdN l k ∈ l := by rw [rdN_at l k hlt]; exact List.getElem_mem hlt
      have hgood := HOK.out _ hmem
      rw [ifv_win hgood.1] at hx0
      have HS := Lib.hid (encSingle_1 B b a (rdN l k).f1 (rdN l k).f2 _ _ (by have := hgood.2; simp only [toS] at this; omega) (by have := hgood.2; simp only [toS] at this; omega) H1.out.1 (Nat.le_trans HK.out.1 H1.out.2.1.size) (by have h1 := winsB_len (l.take k); have h2 := HK.out.2.2; rw [List.length_take] at h1; rw [List.length_append, List.length_append, Lib.beBytes_length]; omega))
      have HN := Lib.hid (winsB_snoc l k hlt)
      clear hgood hmem
      go_wp2_with (go_at_call 149; go_loud (refine HS.out.mono ?_; rintro e_ w2 ⟨rfl, h1, h2, h3⟩; rw [List.append_assoc, ← HN.out] at h1; have H2 := Lib.hid (And.intro h1 (And.intro (H1.out.2.1.trans h2) (others_trans H1.out.2.2 h3))); clear h1 h2 h3))
      go_roundg (l.length - (k + 1))
      case measure => have := hq.out; omega
      case rel => exact ⟨k + 1, by omega, ⟨rfl⟩, by go_num, H2⟩
    · have hkl : k = l.length := by omega
      subst hkl
      go_wp2
      go_ret
      have := H1.out
      rw [List.take_length] at this
      exact ⟨rfl, this⟩
end Go.Proofs.YtgdbeiadlgkedaaGreatDoor
set_option linter.unusedVariables false
set_option linter.unusedSimpArgs false
namespace Go.Proofs.YtgdbeiadlgkedaaGreatDoor
open Go.RowKit PFnWindowOne Go.Proofs.YtgdbeiadlgkedaaGreatDoorW.PrintWords
theorem rd32_map (l : List S23) (k : Nat) (h : k < l.length) : rd_T32 (l.map toS) (k : Int) = toS (rdN l k) := by
  rw [rd32_at _ k (by rw [List.length_map]; exact h), List.getElem_map, rdN_at l k h]
theorem atS {w : World} {A : Option Addr} {n : Nat} {l : List S23} (h : Kd.C k32 w A n (l.map toS)) (hn : n = l.length) (i : Nat) (h1 : i < n) : ∃ ad, A = some ad ∧ w.cell? (ad.add (i * 3)) = some (.bool (rdN l i).f0) ∧ w.cell? ⟨(ad.add (i * 3)).block, (ad.add (i * 3)).off + 1, none⟩ = some (.int .i64 (rdN l i).f1) ∧ w.cell? ⟨(ad.add (i * 3)).block, (ad.add (i * 3)).off + 2, none⟩ = some (.int .i64 (rdN l i).f2) := by
  obtain ⟨ad, e, h0, h1, h2⟩ := at_T32 h (i : Int) (by omega) (by omega)
  rw [rd32_map l i (by omega)] at h0 h1 h2
  exact ⟨ad, e, h0, h1, h2⟩
end Go.Proofs.YtgdbeiadlgkedaaGreatDoor
set_option linter.unusedVariables false
set_option linter.unusedSimpArgs false
namespace Go.Proofs.YtgdbeiadlgkedaaGreatDoor
open Go.RowKit PFnWindowOne Go.Proofs.YtgdbeiadlgkedaaGreatDoorW.PrintWords
theorem eqA32 (d : Nat) (w : World) (x0 y0 : Bool) (x1 y1 : Int) (x2 y2 : Int) :
    (Op.equalIn (d + 2) 32 (.agg #[.bool x0, .int .i64 x1, .int .i64 x2]) (.agg #[.bool y0, .int .i64 y1, .int .i64 y2])).run Tryz.prog w = .ok (x0 == y0 && (x1 == y1 && (x2 == y2))) w := by
  refine eqA_of Tryz.underlying32 (by kernel_rfl) ?_
  refine eqf_cons (by rfl) (by go_simp; rfl) (by go_simp; rfl) (by go_simp) ?_
  refine eqf_cons (by rfl) (by go_simp; rfl) (by go_simp; rfl) (by go_simp) ?_
  exact eqf_last (by rfl) (by go_simp; rfl) (by go_simp; rfl) (by go_simp)
attribute [local go_sem high] eqA32
set_option maxHeartbeats 1000000 in
set_option maxRecDepth 100000 in
theorem same_eq (A0 : Option Addr) (c0 : Nat) (A1 : Option Addr) (c1 : Nat) (l : List S23) (w : World) (hr0 : Kd.C k32 w A0 l.length (l.map toS)) (hr1 : Kd.C k32 w A1 l.length (l.map toS)) :
    Calls Tryz.prog 18 #[.slice A0 l.length c0, .slice A1 l.length c1] w fun e w' => e = .returned (.bool true) ∧ ∃ q, w' = w.drewN q := by
  have HR0 := Aside0.mk hr0
  have HR1 := Aside0.mk hr1
  have hlen : l.length ≤ 9223372036854775807 := hr0.2.1
  have c3b0 : ((l.length : Int) == (l.length : Int)) = true := by simp
  have c3b1 : ((l.length : Int) != (l.length : Int)) = false := by simp
  clear hr0 hr1
  go_enter Tryz.func18, Tryz.ntmps18
  go_wp2
  repeat (go_quiet (fail); try go_wp2)
  go_loopg [13] l.length (fun kq v13 w' => ∃ k : Nat, k ≤ l.length ∧ Aside0 (kq = l.length - k) ∧ v13 = .int .i64 k ∧ ∃ q, w' = w.drewN q)
  case atStart => exact ⟨0, Nat.zero_le _, ⟨by simp⟩, rfl, ⟨0, rfl⟩⟩
  case round =>
    clear c3b0 c3b1
    obtain ⟨k, hk, hq, rfl, ⟨m1, rfl⟩⟩ := hrel
    by_cases hlt : k < l.length
    · obtain ⟨ad0, e0, hx0, hx1, hx2⟩ := atS HR0.out rfl k hlt
      cases e0
      obtain ⟨ad1, e1, hy0, hy1, hy2⟩ := atS HR1.out rfl k hlt
      cases e1
      have q0 : (k : Int) < (l.length : Int) := by omega
      have q2 : (0 : Int) ≤ (k : Int) := by omega
      go_wp2
      repeat (go_quiet (fail); try go_wp2)
      go_roundg (l.length - (k + 1))
      case measure => have := hq.out; omega
      case rel => exact ⟨k + 1, by omega, ⟨rfl⟩, by go_num, ⟨_, by first | rfl | exact World.drewN_drewN ..⟩⟩
    · go_wp2
      repeat (go_quiet (fail); try go_wp2)
      go_ret
      exact ⟨rfl, ⟨_, by first | rfl | exact World.drewN_drewN ..⟩⟩
theorem wins_read : ∀ (l : List S23) (rest : List UInt8), (∀ x ∈ l, okS (toS x)) → rdWins l.length (winsB l ++ rest) = some (l, (winsB l).length)
  | [], rest, _ => rfl
  | x :: l, rest, h => by
    obtain ⟨h0, h1, h2, h3⟩ := h x List.mem_cons_self
    obtain ⟨g, s, e⟩ := x
    simp only [toS] at h0 h1 h2 h3
    subst h0
    have hw : winsB ((⟨false, s, e⟩ : S23) :: l) = wbytes s e ++ winsB l := by simp [winsB]
    rw [hw, List.append_assoc]
    obtain ⟨r1, r2, r3, r4⟩ := win_read s e (winsB l ++ rest) (wbytes s e ++ (winsB l ++ rest)) 0 h1 h2 h3 (by rw [List.drop_zero])
    rw [Nat.zero_add] at r1 r3
    rw [List.drop_zero] at r2
    have hr : rdWin (wbytes s e ++ (winsB l ++ rest)) = some (⟨false, s, e⟩, (wbytes s e).length) := by
      unfold rdWin
      rw [if_neg (by omega), r3]
      simp only [Option.map_some]
      rw [show tmOf (wbytes s e ++ (winsB l ++ rest)) = e from r2, r4]
      congr 2
      unfold wbytes; rw [List.length_append, Lib.beBytes_length]
    show (rdWin _).bind _ = _
    rw [hr]
    simp only [Option.bind_some]
    rw [drop_pre rfl, wins_read l rest (fun y hy => h y (List.mem_cons_of_mem _ hy))]
    simp only [Option.map_some, List.length_append]
theorem head_read (n : Nat) (hn : n ≤ 10000) (rest l : List UInt8) (i : Nat) (hd : l.drop i = Lib.beBytes 4 n ++ rest) : i + 4 ≤ l.length ∧ wrap32 (Lib.beNat ((l.drop i).take 4) : Nat) = (n : Int) ∧ l.drop (i + 4) = rest := by
  have h4 := Lib.beBytes_length 4 n
  refine ⟨?_, ?_, ?_⟩
  · have := congrArg List.length hd
    rw [List.length_drop, List.length_append, h4] at this
    omega
  · rw [hd, take_pre h4, be4 _ (by omega)]; unfold wrap32; omega
  · rw [← List.drop_drop, hd, drop_pre h4]
end Go.Proofs.YtgdbeiadlgkedaaGreatDoor
set_option linter.unusedVariables false
set_option linter.unusedSimpArgs false
namespace Go.Proofs.YtgdbeiadlgkedaaGreatDoor
open Go.RowKit PFnWindowOne Go.Proofs.YtgdbeiadlgkedaaGreatDoorW.PrintWords
theorem int1_l (l : List S23) (hl : l.length ≤ 1000) (hok : ∀ x ∈ l, x.f0 = false) : ∀ (m i : Nat), i + m = l.length → impl_intervals.l0 (m + 1) 1 l (l.length : Int) (i : Int) = some true
  | 0, i, h => by rw [impl_intervals.l0, if_neg (by omega)]
  | m + 1, i, h => by
    have hlt : i < l.length := by omega
    have hx := hok _ (List.getElem_mem hlt)
    rw [impl_intervals.l0, if_pos (by omega), if_pos (by omega), if_pos (by omega), if_pos rfl, rd23_at l i hlt, if_neg (by rw [hx]; decide), wrap_up i (by omega), int1_l l hl hok m (i + 1) (by omega)]
theorem ints1 (l : List S23) (hl : l.length ≤ 1000) (hok : ∀ x ∈ l, okS (toS x)) : impl_intervals.f (l.length + 1) 1 l = some true := int1_l l hl (fun x hx => (hok x hx).1) l.length 0 (by omega)
theorem mthE_1 (a : Nat) : ∀ W : World, (nilAhead 367 189 (.pointer (some ⟨a, 0, none⟩)) "Encode").run Tryz.prog W = .ok (some false) W := fun _ => by kernel_rfl
theorem buf_next {w w2 : World} {o o2 : Obj} (h : w2 = (w.alloc o).drew.alloc o2) : w2.heap[w.heap.size + 1]? = some o2 := by
  have h1 := heap_alloc_new (w.alloc o).drew o2
  rw [show (w.alloc o).drew.heap.size = w.heap.size + 1 from World.size_alloc ..] at h1
  rw [h]; exact h1
theorem C_move {w w1 : World} {A : Option Addr} {n : Nat} {l : List S23} (h : Kd.C k23 w A n l) (hb : Below w.heap.size w w1) : Kd.C k23 w1 A n l := Kd.C_below h hb
set_option maxHeartbeats 8000000 in
set_option maxRecDepth 100000 in
theorem encWins_1 (l : List S23) (hok : ∀ x ∈ l, okS (toS x)) (hl : l.length ≤ 20) (A : Option Addr) (c : Nat) (w : World) (hC : Kd.C k23 w A l.length l) (hc : l.length ≤ c) :
    Calls Tryz.prog 16 #[.int .i64 1, .slice A l.length c] w fun x w' => x = .returned (.tuple #[.string ⟨(Lib.beBytes 4 l.length ++ winsB l).toArray⟩, .string ⟨#[]⟩]) ∧ Below w.heap.size w w' := by
  have HI := Lib.hid (impl_intervals.calls (l.length + 1) 1 A c l true w hC hc (ints1 l (by omega) hok))
  have HC := Lib.hid hC
  have HK := Lib.hid (And.intro hok (And.intro hl hc))
  have na := mthE_1
  clear hok hl hC hc
  go_enter Tryz.func16, Tryz.ntmps16
  go_wp2_with (go_at_call 36; go_loud ((with_reducible refine HI.out.mono ?_); rintro e_ w1 ⟨rfl, hb⟩; have HB1 := Lib.hid hb; clear hb))
  have HX := Lib.hid (show (Bf w1.heap.size w1.heap.size [] (w1.alloc (.cells #[.slice none 0 0, .int .i64 0, .int .i8 0] 105)).drew ∧ Below w1.heap.size w1 (w1.alloc (.cells #[.slice none 0 0, .int .i64 0, .int .i8 0] 105)).drew) from by
    have h0 : Below w1.heap.size w1 (w1.alloc (.cells #[.slice none 0 0, .int .i64 0, .int .i8 0] 105)).drew := below_drew (below_alloc (Below.refl _ _) _)
    have hF : Bf w1.heap.size w1.heap.size [] (w1.alloc (.cells #[.slice none 0 0, .int .i64 0, .int .i8 0] 105)) := Lib.fresh_isBuffer 105 5 w1
    exact ⟨hF.old (below_drew (Below.refl _ _)), h0⟩)
  go_region_with (first
    | (go_at_call 39; go_loud (refine (wcoder_1 _).mono ?_; rintro e_ w2 ⟨rfl, hw⟩; have hb : Below (w1.alloc (.cells #[.slice none 0 0, .int .i64 0, .int .i8 0] 105)).drew.heap.size (w1.alloc (.cells #[.slice none 0 0, .int .i64 0, .int .i8 0] 105)).drew w2 := (by rw [hw]; exact (Below.refl _ _).alloc (Nat.le_refl _) _); have HC2 := Lib.hid (buf_next (o2 := .cells #[.string iwc, .string ⟨#[]⟩] 182) hw); have HX2 := Lib.hid (And.intro (HX.out.1.old hb) (below_then HX.out.2 HX.out.2.size hb)); clear hw hb))
    | (go_at_call 38; go_loud (refine (wenc_1 (w1.heap.size + 1) w2 HC2.out).mono ?_; rintro e_ w3 ⟨rfl, hw⟩; have hb : Below w2.heap.size w2 w3 := (by rw [hw]; exact (Below.refl _ _).alloc (Nat.le_refl _) _); have HX3 := Lib.hid (And.intro (HX2.out.1.old hb) (below_then HX2.out.2 HX2.out.2.size hb)); clear hw hb))
    | (go_at_call 48; go_loud (refine (wins_any A c l w3 (C_move HC.out (HB1.out.trans (HX3.out.2.mono HB1.out.size))) HK.out.2.2 (by have := HK.out.2.1; omega)).mono ?_; rintro e_ w4 ⟨v, rfl, hR, hb⟩; have HX4 := Lib.hid (And.intro (HX3.out.1.old hb) (below_then HX3.out.2 HX3.out.2.size hb)); obtain ⟨A4, c4, rfl⟩ := Kd.R_slice hR; have HR4 := Lib.hid hR; clear hR hb))
    | (go_at_call 148; go_loud (refine (encAll_1 w1.heap.size w1.heap.size w3.heap.size _ l HK.out.1 HK.out.2.1 A4 c4 [] w4 HX4.out.1 HX4.out.2.size (by have := HX3.out.1.lt; exact this) HR4.out (by decide)).mono ?_; rintro e_ w5 ⟨rfl, h1, h2, h3⟩; rw [List.nil_append] at h1; have HX5 := Lib.hid (And.intro h1 (HB1.out.trans ((HX4.out.2.trans h2).mono HB1.out.size))); clear h1 h2 h3)))
  all_goals
    refine (by assumption : ∀ (a : Act) (w : World), Code.wp _ _ _ a w → _) _ _ ?_
    go_wp2_with (first | (go_at_call 49; go_loud (refine (string_any _ _ _ _ HX5.out.1).mono ?_; rintro e_ w6 ⟨rfl, q, rfl⟩)) | (go_at_call 41; go_loud (refine (word_nilZ _).mono ?_; rintro e_ w7 ⟨rfl, rfl⟩)))
    go_ret2
    exact ⟨rfl, below_drewN HX5.out.2 q⟩
end Go.Proofs.YtgdbeiadlgkedaaGreatDoor
set_option linter.unusedVariables false
set_option linter.unusedSimpArgs false
namespace Go.Proofs.YtgdbeiadlgkedaaGreatDoor
open Go.RowKit PFnWindowOne Go.Proofs.YtgdbeiadlgkedaaGreatDoorW.PrintWords
set_option maxHeartbeats 8000000 in
set_option maxRecDepth 100000 in
theorem back_ok (pe pl : Addr) (A : Option Addr) (c : Nat) (l : List S23) (rest : ByteArray) (w : World) (he : Env w.heap.size pe pl w) (hC : Kd.C k23 w A l.length l) (hc : l.length ≤ c) (hf : laws_codSpanFew.f (l.length + 1) l = some true) (hl : l.length ≤ 20) (hok : ∀ x ∈ l, okS (toS x)) (hrest : rest.size ≤ 50) :
    Calls Tryz.prog 4 #[.slice A l.length c, .string rest] w fun x w' => x = .returned (.bool true) ∧ Below w.heap.size w w' := by
  have HE := Lib.hid he
  have HC := Lib.hid hC
  have HK := Lib.hid hc
  have HF := Lib.hid (laws_codSpanFew.calls _ A c l true w hC hc hf)
  have hl1 : (l.length : Int) ≤ 20 := by omega
  have hr1 : (rest.size : Int) ≤ 50 := by omega
  obtain ⟨S1, hS1⟩ : ∃ S1 : ByteArray, S1 = ⟨(Lib.beBytes 4 l.length ++ winsB l).toArray⟩ := ⟨_, rfl⟩
  have hl2 : S1.data.toList = Lib.beBytes 4 l.length ++ winsB l := by rw [hS1]
  have hz : S1.size = 4 + (winsB l).length := by rw [show S1.size = S1.data.toList.length by rw [Array.length_toList]; rfl, hl2, List.length_append, Lib.beBytes_length]
  have hz2 := winsB_len l
  have HE1 := Lib.hid (fun (A' : Option Addr) (c' : Nat) (W : World) (h1 : Kd.C k23 W A' l.length l) (h2 : l.length ≤ c') => encWins_1 l hok hl A' c' W h1 h2)
  rw [← hS1] at HE1
  obtain ⟨TT, hTT⟩ : ∃ TT, TT = S1 ++ rest := ⟨_, rfl⟩
  have hlT : TT.data.toList = Lib.beBytes 4 l.length ++ (winsB l ++ rest.data.toList) := by rw [hTT, ByteArray.data_append, Array.toList_append, hl2, List.append_assoc]
  have hadd := add_strZ S1 rest (by omega) (by omega)
  rw [← hTT] at hadd
  have hzT : TT.size ≤ 1000 := by rw [hTT, ByteArray.size_append]; omega
  obtain ⟨d1, d2, d3⟩ := head_read l.length (by omega) (winsB l ++ rest.data.toList) TT.data.toList 0 (by rw [List.drop_zero]; exact hlT)
  have hrd := wins_read l rest.data.toList hok
  rw [← d3] at hrd
  have hnz : l.map nz = l := nz_id (fun x hx => (hok x hx).1)
  have HD := Lib.hid (fun (W : World) (h1 : Env w.heap.size pe pl W) (h2 : w.heap.size ≤ W.heap.size) => decWins_1_ok w.heap.size pe pl TT W (by omega) h1 h2 l.length d1 d2 (by omega) l _ S1.size hrd (by omega))
  rw [hnz] at HD
  have HSO := Lib.hid (fun (A' : Option Addr) (c' : Nat) (W : World) (h : Kd.C k23 W A' l.length l) (h2 : l.length ≤ c') => laws_codSpanOf.calls (l.length + 1) A' c' l _ W h h2 (spanOf_f l (by omega)))
  clear he hC hf hok hc hS1 hl2 hz hz2 hTT hlT hzT d1 d2 d3 hrd hnz hrest
  go_enter Tryz.func4, Tryz.ntmps4
  go_wp2_with (first
    | (go_at_call 10; go_loud ((with_reducible refine HF.out.mono ?_); rintro e_ w1 ⟨rfl, hb⟩; have HB1 := Lib.hid hb; clear hb))
    | ((with_reducible refine gate_builtin (b := .append) (xs := #[.const (.slice none 0 0), .tmp 28]) rfl ?_); at_builtin; refine R_append_wins (w0 := w) (W := w1) w.heap.size rfl (.const (.slice none 0 0)) (.tmp 28) 25 rfl Tryz.underlying25 info23 _ [] l A l.length c rfl rfl (Kd.R_nil _ _ _ _ _) (C_move HC.out HB1.out) HB1.out HB1.out.size ?hl ?_; (case hl => simp; omega); intro A2 c2 w2 hR2 hB2 hg2; rw [List.nil_append] at hR2 ⊢; have HR2 := Lib.hid (Kd.R_reads' hR2).2; have HB2 := Lib.hid hB2; clear hR2 hB2 hg2)
    | (go_at_call 16; go_loud ((with_reducible refine (HE1.out A2 c2 w2 HR2.out.2 HR2.out.1).mono ?_); rintro e_ w3 ⟨rfl, hb⟩; have HB3 := Lib.hid (below_then HB2.out HB2.out.size hb); clear hb))
    | (go_at_call 17; go_loud ((with_reducible refine (HD.out w3 (HE.out.below HB3.out) HB3.out.size).mono ?_); rintro e_ w4 ⟨A4, c4, rfl, hC4, hc4, hb⟩; have HB4 := Lib.hid (below_then HB3.out HB3.out.size hb); have HC4 := Lib.hid (And.intro hC4 hc4); clear hb hC4 hc4))
    | (go_at_call 11; go_loud ((with_reducible refine (awake_any w.heap.size pe pl w4 (HE.out.below HB4.out) HB4.out.size).mono ?_); rintro e_ w5 ⟨rfl, hb⟩; have HC5 := Lib.hid (C_move HC4.out.1 hb); have HB5 := Lib.hid (below_then HB4.out HB4.out.size hb); clear hb))
    | (go_at_call 15; go_loud ((with_reducible refine (HSO.out A4 c4 w5 HC5.out HC4.out.2).mono ?_); rintro e_ w6 ⟨v, rfl, hR6, hb⟩; obtain ⟨A6, c6, e6⟩ := Kd.R_slice hR6; subst e6; (try rw [List.length_map]); have HR6 := Lib.hid (Kd.R_reads' hR6).2.2; have HB6 := Lib.hid (below_then HB5.out HB5.out.size hb); clear hR6 hb))
    | (go_at_call 15; go_loud ((with_reducible refine (HSO.out A c w6 (C_move HC.out HB6.out) HK.out).mono ?_); rintro e_ w7 ⟨v, rfl, hR7, hb⟩; obtain ⟨A7, c7, e7⟩ := Kd.R_slice hR7; subst e7; (try rw [List.length_map]); have HR7 := Lib.hid (Kd.R_reads' hR7).2.2; have HR6b := Lib.hid (Kd.C_below HR6.out hb); have HB7 := Lib.hid (below_then HB6.out HB6.out.size hb); clear hR7 hb))
    | (go_at_call 18; go_loud ((with_reducible refine (same_eq A6 c6 A7 c7 l w7 (by have := HR6b.out; rwa [List.length_map] at this) (by have := HR7.out; rwa [List.length_map] at this)).mono ?_); rintro e_ w8 ⟨rfl, q, hq⟩; have HB8 := Lib.hid (show Below w.heap.size w w8 by rw [hq]; exact below_drewN HB7.out q); clear hq)))
  go_ret
  exact ⟨rfl, HB8.out⟩
set_option maxHeartbeats 8000000 in
set_option maxRecDepth 100000 in
theorem back_not (pe pl : Addr) (A : Option Addr) (c : Nat) (l : List S23) (rest : ByteArray) (w : World) (he : Env w.heap.size pe pl w) (hC : Kd.C k23 w A l.length l) (hc : l.length ≤ c) (b : Bool) (hf : laws_codSpanFew.f (l.length + 1) l = some b) (h1 : ¬ 2147483647 < l.length) (h2 : ¬ 2147483647 < rest.size) (hb : b = false ∨ 50 < rest.size) :
    Calls Tryz.prog 4 #[.slice A l.length c, .string rest] w fun x w' => x = .returned (.bool true) ∧ Below w.heap.size w w' := by
  have HE := Lib.hid he
  have HF := Lib.hid (laws_codSpanFew.calls _ A c l b w hC hc hf)
  have g1 : ¬ 2147483647 < (l.length : Int) := by omega
  have g2 : ¬ 2147483647 < (rest.size : Int) := by omega
  cases b with
  | false =>
    clear he hC hc hf h1 h2 hb
    go_enter Tryz.func4, Tryz.ntmps4
    go_wp2_with (first
      | (go_at_call 10; go_loud ((with_reducible refine HF.out.mono ?_); rintro e_ w1 ⟨rfl, hb⟩; have HB1 := Lib.hid hb; clear hb))
      | (go_at_call 11; go_loud ((with_reducible refine (awake_any w.heap.size pe pl w1 (HE.out.below HB1.out) HB1.out.size).mono ?_); rintro e_ w6 ⟨rfl, hb⟩; have HB6 := Lib.hid (below_then HB1.out HB1.out.size hb); clear hb)))
    all_goals
      go_ret
      exact ⟨rfl, HB6.out⟩
  | true =>
    have g3 : 50 < (rest.size : Int) := by rcases hb with h | h; cases h; omega
    clear he hC hc hf h1 h2 hb
    go_enter Tryz.func4, Tryz.ntmps4
    go_wp2_with (first
      | (go_at_call 10; go_loud ((with_reducible refine HF.out.mono ?_); rintro e_ w1 ⟨rfl, hb⟩; have HB1 := Lib.hid hb; clear hb))
      | (go_at_call 11; go_loud ((with_reducible refine (awake_any w.heap.size pe pl w1 (HE.out.below HB1.out) HB1.out.size).mono ?_); rintro e_ w6 ⟨rfl, hb⟩; have HB6 := Lib.hid (below_then HB1.out HB1.out.size hb); clear hb)))
    all_goals
      go_ret
      exact ⟨rfl, HB6.out⟩
theorem back_long (A : Option Addr) (c : Nat) (l : List S23) (rest : ByteArray) (w : World) (h1 : 2147483647 < l.length ∨ 2147483647 < rest.size) :
    Calls Tryz.prog 4 #[.slice A l.length c, .string rest] w fun x w' => x = .returned (.bool true) ∧ Below w.heap.size w w' := by
  by_cases h : 2147483647 < l.length
  · have h2 : 2147483647 < (l.length : Int) := by omega
    clear h1 h
    go_enter Tryz.func4, Tryz.ntmps4
    go_wp2
    all_goals
      go_ret
      exact ⟨rfl, Below.refl _ w⟩
  · have h2 : ¬ 2147483647 < (l.length : Int) := by omega
    have h3 : 2147483647 < (rest.size : Int) := by rcases h1 with h1 | h1; exact absurd h1 h; omega
    clear h1 h
    go_enter Tryz.func4, Tryz.ntmps4
    go_wp2
    go_ret
    exact ⟨rfl, Below.refl _ w⟩
theorem back_row (pe pl : Addr) (A : Option Addr) (c : Nat) (l : List S23) (rest : ByteArray) (w : World) (he : Env w.heap.size pe pl w) (hC : Kd.C k23 w A l.length l) (hc : l.length ≤ c) :
    Calls Tryz.prog 4 #[.slice A l.length c, .string rest] w fun x w' => x = .returned (.bool true) ∧ Below w.heap.size w w' := by
  by_cases h1 : 2147483647 < l.length
  · exact back_long A c l rest w (.inl h1)
  by_cases h2 : 2147483647 < rest.size
  · exact back_long A c l rest w (.inr h2)
  obtain ⟨b, hf, hg⟩ := few_f l
  by_cases hb : b = true ∧ ¬ 50 < rest.size
  · obtain ⟨rfl, hr⟩ := hb
    exact back_ok pe pl A c l rest w he hC hc hf (hg rfl).1 (hg rfl).2 (by omega)
  · refine back_not pe pl A c l rest w he hC hc b hf h1 h2 ?_
    cases b with
    | false => exact .inl rfl
    | true => right; by_cases h : 50 < rest.size; exact h; exact absurd ⟨rfl, h⟩ hb
end Go.Proofs.YtgdbeiadlgkedaaGreatDoor
set_option linter.unusedVariables false
set_option linter.unusedSimpArgs false
namespace Go.Proofs.YtgdbeiadlgkedaaGreatDoor
open Go.RowKit Go.Deep PFnWindowOne Go.Proofs.YtgdbeiadlgkedaaGreatDoorW.PrintWords
theorem choose_list {α : Type} {n : Nat} {p : Nat → α → Prop} (h : ∀ i, i < n → ∃ x, p i x) : ∃ xs : List α, xs.length = n ∧ ∀ i x, xs[i]? = some x → p i x := by
  induction n with
  | zero => exact ⟨[], rfl, by simp⟩
  | succ n ih =>
    obtain ⟨xs, hl, hx⟩ := ih (fun i hi => h i (by omega))
    obtain ⟨y, hy⟩ := h n (by omega)
    refine ⟨xs ++ [y], by simp [hl], fun i x hi => ?_⟩
    by_cases hlt : i < xs.length
    · rw [List.getElem?_append_left hlt] at hi; exact hx i x hi
    · rw [List.getElem?_append_right (by omega)] at hi
      have e : i = n := by
        have := (List.getElem?_eq_some_iff.1 hi).1
        simp at this; omega
      subst e
      simp [hl] at hi
      exact hi ▸ hy
theorem open_kd {α H : Type} {enc : TypeId × Value → H} {P : Program} {W : World} {sp : Nat → Bool} {held : Bool} (d : Kd α) {Good : α → Prop} {t e : TypeId} (ht : P.underlying t = some (.slice e)) (hce : P.cellsOf e = d.sz)
    (hel : ∀ n cs x, cs.length = d.sz → DataW.trod enc P W 0 sp held n e cs = some x → ∃ a : α, d.K W a cs ∧ Good a)
    {A0 : Option Addr} {n0 c0 : Nat} {ds : DataW H} {ps : List MemPlace} (h : DataW.Trod enc P W 0 sp held t (.slice A0 n0 c0) ds ps) :
    ∃ xs : List α, n0 = xs.length ∧ xs.length ≤ c0 ∧ d.C W A0 xs.length xs ∧ ∀ x ∈ xs, Good x := by
  obtain ⟨fuel, hf⟩ := h
  rcases open_slice ht hf with ⟨hcs, _⟩ | ⟨a, len, cap, m, n, D, Pl, hcs, hb, hl, hm, hmm, hx, hall⟩
  · simp [Value.cells] at hcs
    obtain ⟨rfl, rfl, rfl⟩ := hcs
    exact ⟨[], rfl, Nat.le_refl _, Kd.C_nil d W, by simp⟩
  · simp [Value.cells] at hcs
    obtain ⟨rfl, rfl, rfl⟩ := hcs
    have hlm : n0 ≤ m := by rw [hmm]; split <;> omega
    have each : ∀ i, i < n0 → ∃ x : α, Good x ∧ ∃ c, c.length = d.sz ∧ d.K W x c ∧ ∀ j u, c[j]? = some u → W.cell? (a.add (i * d.sz + j)) = some u := by
      intro i hi
      obtain ⟨cs', h1, h2⟩ := hall i (by omega)
      rw [hce] at h1
      obtain ⟨_, hlen, hcell⟩ := World.cells?_some h1
      obtain ⟨x, hK, hG⟩ := hel _ _ _ hlen h2
      refine ⟨x, hG, cs', hlen, hK, fun j u hu => ?_⟩
      have hj : j < d.sz := by rw [← hlen]; exact (List.getElem?_eq_some_iff.1 hu).1
      rw [← Deep.add_add, hcell j hj]; exact hu
    obtain ⟨xs, hxl, hxs⟩ := choose_list each
    refine ⟨xs, hxl.symm, by omega, ⟨rfl, ?_, fun _ => ⟨a, rfl, fun j p hj => (hxs j p hj).2⟩⟩, fun x hx => ?_⟩
    · have : maxLen ≤ 9223372036854775807 := by decide
      omega
    · obtain ⟨i, hi⟩ := List.getElem?_of_mem hx
      exact (hxs i x hi).1
theorem list3 {α : Type} {l : List α} (h : l.length = 3) : ∃ a b c, l = [a, b, c] := by
  match l, h with
  | [a, b, c], _ => exact ⟨a, b, c, rfl⟩
theorem open_sp {H : Type} {enc : TypeId × Value → H} {W : World} {sp : Nat → Bool} {held : Bool} {A0 : Option Addr} {n0 c0 : Nat} {ds : DataW H} {ps : List MemPlace} (h : DataW.Trod enc Tryz.prog W 0 sp held 25 (.slice A0 n0 c0) ds ps) :
    ∃ xs : List S23, n0 = xs.length ∧ xs.length ≤ c0 ∧ k23.C W A0 xs.length xs := by
  obtain ⟨xs, e, hc, hC, _⟩ := open_kd (Good := fun _ => True) k23 Tryz.underlying25 (by kernel_rfl) (fun n cs x hl hx => by
    obtain ⟨y0, y1, y2, k, hxy, _, u0, u1, u2⟩ := trod_struct3 Tryz.underlying23 hx
    have hl3 : cs.length = 3 := hl
    clear hl hx
    obtain ⟨v0, v1, v2, rfl⟩ := list3 hl3
    clear hl3
    · rw [show Tryz.prog.cellsOf 4 = 1 from by kernel_rfl] at u0
      rw [show Tryz.prog.cellsOf 2 = 1 from by kernel_rfl] at u1 u2
      simp only [List.drop, List.take] at u0 u1 u2
      obtain ⟨s, e0, d0⟩ := DataW.trod_bool Tryz.underlying4 u0
      obtain ⟨q, e1, d1, _⟩ := DataW.trod_int Tryz.underlying2 u1
      obtain ⟨p, e2, d2, _⟩ := DataW.trod_int Tryz.underlying2 u2
      simp only [List.cons.injEq, and_true] at e0 e1 e2
      subst e0; subst e1; subst e2
      exact ⟨⟨s, q, p⟩, Kd.K_of_M _ (k23_mkM W 0 (fun _ => True) ⟨s, q, p⟩), trivial⟩) h
  exact ⟨xs, e, hc, hC⟩
end Go.Proofs.YtgdbeiadlgkedaaGreatDoor
