/- Plain laws of an ordered list: values put by ascending keys, equal keys in the order in which they came. -/
set_option linter.unusedVariables false
set_option linter.unusedSimpArgs false
namespace Go.Proofs.Ytoigekmdicepnaa
namespace Ord
abbrev E2 := Int × Int
/-- A value put ahead of the first greater key. -/
def ins (a v : Int) : List E2 → List E2
  | [] => [(a, v)]
  | x :: r => if a < x.1 then (a, v) :: x :: r else x :: ins a v r
theorem ins_lt {a v : Int} {x : E2} (r : List E2) (h : a < x.1) : ins a v (x :: r) = (a, v) :: x :: r := by unfold ins; rw [if_pos h]
theorem ins_ge {a v : Int} {x : E2} (r : List E2) (h : ¬ a < x.1) : ins a v (x :: r) = x :: ins a v r := by
  show (if a < x.1 then (a, v) :: x :: r else x :: ins a v r) = _
  rw [if_neg h]
/-- Values put one by one. -/
def isort (l : List E2) : List E2 := l.foldl (fun acc x => ins x.1 x.2 acc) []
def Asc (l : List E2) : Prop := l.Pairwise (fun x y => x.1 ≤ y.1)
theorem ins_mem {a v : Int} : ∀ {l : List E2} {x : E2}, x ∈ ins a v l → x = (a, v) ∨ x ∈ l
  | [], x, h => by simp only [ins, List.mem_singleton] at h; exact .inl h
  | y :: r, x, h => by
    unfold ins at h
    by_cases c : a < y.1
    · rw [if_pos c] at h
      rcases List.mem_cons.1 h with h | h
      · exact .inl h
      · exact .inr h
    · rw [if_neg c] at h
      rcases List.mem_cons.1 h with h | h
      · exact .inr (by rw [h]; exact List.mem_cons_self)
      · rcases ins_mem h with h | h
        · exact .inl h
        · exact .inr (List.mem_cons_of_mem _ h)
theorem ins_asc {a v : Int} : ∀ {l : List E2}, Asc l → Asc (ins a v l)
  | [], h => List.pairwise_singleton _ _
  | y :: r, h => by
    obtain ⟨h1, h2⟩ := List.pairwise_cons.1 h
    unfold ins
    by_cases c : a < y.1
    · rw [if_pos c]
      refine List.pairwise_cons.2 ⟨fun z hz => ?_, h⟩
      show a ≤ z.1
      rcases List.mem_cons.1 hz with rfl | hz
      · omega
      · have := h1 z hz; omega
    · rw [if_neg c]
      refine List.pairwise_cons.2 ⟨fun z hz => ?_, ins_asc h2⟩
      rcases ins_mem hz with rfl | hz
      · show y.1 ≤ a; omega
      · exact h1 z hz
theorem ins_len (a v : Int) : ∀ (l : List E2), (ins a v l).length = l.length + 1
  | [] => rfl
  | y :: r => by
    unfold ins
    by_cases c : a < y.1
    · rw [if_pos c]; rfl
    · rw [if_neg c, List.length_cons, ins_len a v r, List.length_cons]
/-- A value is put between what is not greater and what is greater. -/
theorem ins_between {a v : Int} : ∀ {p q : List E2}, (∀ x ∈ p, x.1 ≤ a) → (∀ x ∈ q, a < x.1) → ins a v (p ++ q) = p ++ (a, v) :: q
  | [], [], h, h2 => rfl
  | [], y :: q, h, h2 => by
    show ins a v (y :: q) = (a, v) :: y :: q
    unfold ins
    rw [if_pos (h2 y List.mem_cons_self)]
  | x :: p, q, h, h2 => by
    show ins a v (x :: (p ++ q)) = x :: (p ++ (a, v) :: q)
    unfold ins
    have := h x List.mem_cons_self
    rw [if_neg (by omega), ins_between (fun y hy => h y (List.mem_cons_of_mem _ hy)) h2]
theorem filter_ins (p : Int → Bool) (a v : Int) : ∀ {l : List E2}, Asc l → (ins a v l).filter (fun x => p x.1) = if p a then ins a v (l.filter (fun x => p x.1)) else l.filter (fun x => p x.1)
  | [], h => by
    unfold ins
    by_cases c : p a = true
    · rw [if_pos c]; simp [c, ins]
    · rw [if_neg c]; simp [c]
  | y :: r, h => by
    obtain ⟨h1, h2⟩ := List.pairwise_cons.1 h
    have ih := filter_ins p a v h2
    by_cases c : a < y.1
    · rw [ins_lt r c]
      have hall : ∀ x ∈ (y :: r).filter (fun x => p x.1), a < x.1 := by
        intro x hx
        rcases List.mem_cons.1 (List.mem_filter.1 hx).1 with rfl | hx
        · exact c
        · have := h1 x hx; omega
      by_cases d : p a = true
      · rw [if_pos d, List.filter_cons_of_pos (by simpa using d)]
        exact (ins_between (p := []) (by simp) hall).symm
      · rw [if_neg d, List.filter_cons_of_neg (by simpa using d)]
    · rw [ins_ge r c]
      by_cases e : p y.1 = true
      · rw [List.filter_cons_of_pos (by simpa using e), List.filter_cons_of_pos (by simpa using e), ih]
        by_cases d : p a = true
        · rw [if_pos d, if_pos d]
          rw [ins_ge _ c]
        · rw [if_neg d, if_neg d]
      · rw [List.filter_cons_of_neg (by simpa using e), List.filter_cons_of_neg (by simpa using e), ih]
theorem isort_snoc (l : List E2) (x : E2) : isort (l ++ [x]) = ins x.1 x.2 (isort l) := by
  unfold isort; rw [List.foldl_append]; rfl
theorem fold_asc : ∀ (l acc : List E2), Asc acc → Asc (l.foldl (fun acc x => ins x.1 x.2 acc) acc)
  | [], acc, h => h
  | x :: l, acc, h => fold_asc l _ (ins_asc h)
theorem isort_asc (l : List E2) : Asc (isort l) := fold_asc l [] List.Pairwise.nil
theorem fold_len : ∀ (l acc : List E2), (l.foldl (fun acc x => ins x.1 x.2 acc) acc).length = acc.length + l.length
  | [], acc => rfl
  | x :: l, acc => by rw [List.foldl_cons, fold_len l, ins_len, List.length_cons]; omega
theorem isort_len (l : List E2) : (isort l).length = l.length := by unfold isort; rw [fold_len]; simp
theorem fold_filter (p : Int → Bool) : ∀ (l acc : List E2), Asc acc → (l.filter (fun x => p x.1)).foldl (fun acc x => ins x.1 x.2 acc) (acc.filter (fun x => p x.1)) = (l.foldl (fun acc x => ins x.1 x.2 acc) acc).filter (fun x => p x.1)
  | [], acc, h => rfl
  | x :: l, acc, h => by
    have ih := fold_filter p l (ins x.1 x.2 acc) (ins_asc h)
    rw [filter_ins p x.1 x.2 h] at ih
    rw [List.foldl_cons, ← ih]
    by_cases c : p x.1 = true
    · rw [if_pos c, List.filter_cons_of_pos (by simpa using c), List.foldl_cons]
    · rw [if_neg c, List.filter_cons_of_neg (by simpa using c)]
/-- What is filtered by keys and then sorted is what is sorted and then filtered. -/
theorem isort_filter (p : Int → Bool) (l : List E2) : isort (l.filter (fun x => p x.1)) = (isort l).filter (fun x => p x.1) := fold_filter p l [] List.Pairwise.nil
/-- The sort in place, at one element that goes down: what stands below it and behind it is sorted, what is behind it is greater. -/
structure Down (s : List E2) (x : E2) (j : Nat) (l : List E2) where
  p : List E2
  q : List E2
  hl : l = p ++ x :: q
  hj : p.length = j
  hs : p ++ q = s
  hq : ∀ y ∈ q, x.1 < y.1
theorem down_end {s : List E2} {x : E2} {j : Nat} {l : List E2} (hs : Asc s) (h : Down s x j l) (hend : j = 0 ∨ ∃ y, h.p.getLast? = some y ∧ ¬ x.1 < y.1) : l = ins x.1 x.2 s := by
  obtain ⟨p, q, hl, hj, hs2, hq⟩ := h
  subst hl; subst hs2
  refine (ins_between (v := x.2) (fun y hy => ?_) hq).symm
  rcases hend with hend | ⟨y0, h0, h1⟩
  · have : p = [] := List.length_eq_zero_iff.1 (hj.trans hend)
    subst this; cases hy
  · obtain ⟨p', rfl⟩ : ∃ p', p = p' ++ [y0] := ⟨p.dropLast, by
      have hne : p ≠ [] := by rintro rfl; cases h0
      rw [List.getLast?_eq_some_getLast hne] at h0
      injection h0 with h0
      rw [← h0]; exact (List.dropLast_concat_getLast hne).symm⟩
    have ha : Asc (p' ++ [y0]) := (List.pairwise_append.1 hs).1
    rcases List.mem_append.1 hy with hy | hy
    · have := (List.pairwise_append.1 ha).2.2 y hy y0 (by simp)
      show y.1 ≤ x.1; omega
    · rw [List.mem_singleton.1 hy]; omega
/-- One swap. -/
def down_step {s : List E2} {x y : E2} {j : Nat} {p' q : List E2} (hs : Asc s) (hj : (p' ++ [y]).length = j + 1) (hss : (p' ++ [y]) ++ q = s) (hq : ∀ z ∈ q, x.1 < z.1) (hlt : x.1 < y.1) : Down s x j (p' ++ x :: y :: q) where
  p := p'
  q := y :: q
  hl := rfl
  hj := by simpa using hj
  hs := by rw [← hss]; simp
  hq := by
    intro z hz
    rcases List.mem_cons.1 hz with rfl | hz
    · exact hlt
    · exact hq z hz
/-- The reference's put: a fold over the list with a flag. -/
def addF (a v : Int) (st : List E2 × Bool) (x : E2) : List E2 × Bool := if x.1 > a ∧ st.2 = false then (st.1 ++ [(a, v), x], true) else (st.1 ++ [x], st.2)
theorem add_done (a v : Int) : ∀ (l acc : List E2), l.foldl (addF a v) (acc, true) = (acc ++ l, true)
  | [], acc => by simp
  | x :: l, acc => by
    rw [List.foldl_cons, show addF a v (acc, true) x = (acc ++ [x], true) by unfold addF; rw [if_neg (by simp)], add_done a v l]
    simp
theorem add_ins (a v : Int) : ∀ (l acc : List E2), (let r := l.foldl (addF a v) (acc, false); if r.2 then r.1 else r.1 ++ [(a, v)]) = acc ++ ins a v l
  | [], acc => by simp [ins]
  | x :: l, acc => by
    by_cases c : a < x.1
    · rw [List.foldl_cons, show addF a v (acc, false) x = (acc ++ [(a, v), x], true) by unfold addF; rw [if_pos ⟨c, rfl⟩], add_done]
      rw [ins_lt _ c]; simp
    · rw [List.foldl_cons, show addF a v (acc, false) x = (acc ++ [x], false) by unfold addF; rw [if_neg (by rintro ⟨h, _⟩; exact c h)], add_ins a v l]
      rw [ins_ge _ c]; simp
/-- A transaction of an ordered list: a value added, or a range cleared. -/
inductive Tx where
  | app (a v : Int)
  | clr (a b : Int)
def inR (a b x : Int) : Bool := decide (a ≤ x) && decide (x < b)
/-- What the program does with a transaction when it reads a range. -/
def tx1 (p : Int → Bool) (l : List E2) : Tx → List E2
  | .app a v => if p a then l ++ [(a, v)] else l
  | .clr a b => l.filter (fun x => !(inR a b x.1))
def replay (p : Int → Bool) (l : List E2) (ts : List Tx) : List E2 := ts.foldl (tx1 p) l
theorem replay_snoc (p : Int → Bool) (l : List E2) (ts : List Tx) (t : Tx) : replay p l (ts ++ [t]) = tx1 p (replay p l ts) t := by
  unfold replay; rw [List.foldl_append]; rfl
theorem tx1_filter (p : Int → Bool) (l : List E2) (t : Tx) : tx1 p (l.filter (fun x => p x.1)) t = (tx1 (fun _ => true) l t).filter (fun x => p x.1) := by
  cases t with
  | app a v =>
    show (if p a then l.filter (fun x => p x.1) ++ [(a, v)] else l.filter (fun x => p x.1)) = (l ++ [(a, v)]).filter (fun x => p x.1)
    rw [List.filter_append]
    by_cases c : p a = true
    · rw [if_pos c]; simp [c]
    · rw [if_neg c]; simp [c]
  | clr a b =>
    show (l.filter (fun x => p x.1)).filter (fun x => !(inR a b x.1)) = (l.filter (fun x => !(inR a b x.1))).filter (fun x => p x.1)
    rw [List.filter_filter, List.filter_filter]
    congr 1; funext x; exact Bool.and_comm _ _
/-- A range of what was replayed is what a read of the range replays. -/
theorem replay_filter (p : Int → Bool) : ∀ (ts : List Tx) (l : List E2), replay p (l.filter (fun x => p x.1)) ts = (replay (fun _ => true) l ts).filter (fun x => p x.1)
  | [], l => rfl
  | t :: ts, l => by
    show replay p (tx1 p (l.filter (fun x => p x.1)) t) ts = (replay (fun _ => true) (tx1 (fun _ => true) l t) ts).filter (fun x => p x.1)
    rw [tx1_filter, replay_filter p ts]
/-- What is read of a range. -/
theorem read_range (p : Int → Bool) (l : List E2) (ts : List Tx) : isort (replay p (l.filter (fun x => p x.1)) ts) = (isort (replay (fun _ => true) l ts)).filter (fun x => p x.1) := by
  rw [replay_filter, isort_filter]
/-- What the reference has behind one more transaction. -/
def ref1 (now : List E2) : Tx → List E2
  | .app a v => ins a v now
  | .clr a b => now.filter (fun x => !(inR a b x.1))
theorem ref_next (l : List E2) (ts : List Tx) (t : Tx) : isort (replay (fun _ => true) l (ts ++ [t])) = ref1 (isort (replay (fun _ => true) l ts)) t := by
  rw [replay_snoc]
  cases t with
  | app a v => exact isort_snoc _ (a, v)
  | clr a b => exact isort_filter (fun x => !(inR a b x)) _
/-- A clear of everything. -/
theorem clr_all {l : List E2} {a b : Int} (h : ∀ x ∈ l, a ≤ x.1 ∧ x.1 < b) : l.filter (fun x => !(inR a b x.1)) = [] := by
  rw [List.filter_eq_nil_iff]
  intro x hx
  obtain ⟨h1, h2⟩ := h x hx
  simp [inR, h1, h2]
/-- A read of everything. -/
theorem read_all {l : List E2} {a b : Int} (h : ∀ x ∈ l, a ≤ x.1 ∧ x.1 < b) : l.filter (fun x => inR a b x.1) = l := by
  rw [List.filter_eq_self]
  intro x hx
  obtain ⟨h1, h2⟩ := h x hx
  simp [inR, h1, h2]
/-- The outer loop: one element more is sorted. -/
theorem isort_take {l : List E2} {i : Nat} {x : E2} (h : l[i]? = some x) : isort (l.take (i + 1)) = ins x.1 x.2 (isort (l.take i)) := by
  rw [List.take_add_one, h]; exact isort_snoc _ x
/-- The inner loop begins with nothing behind. -/
def down_start (s : List E2) (x : E2) : Down s x s.length (s ++ [x]) where
  p := s
  q := []
  hl := rfl
  hj := rfl
  hs := List.append_nil s
  hq := by simp
end Ord
end Go.Proofs.Ytoigekmdicepnaa
