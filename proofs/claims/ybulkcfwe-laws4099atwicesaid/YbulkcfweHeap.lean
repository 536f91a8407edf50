/-
  Plain lists of ends (at, procs): order, heaps, permutations, wrapping sums. No Go in sight.
-/
import Derived.WalkKit
namespace Go.Proofs.Ybulkcfwe

abbrev E := Int × Int
def at' (l : List E) (i : Nat) : Int := (l.getD i (0, 0)).1

theorem at_set (l : List E) (k : Nat) (e : E) (i : Nat) (hk : k < l.length) : at' (l.set k e) i = if k = i then e.1 else at' l i := by
  unfold at'
  rw [List.getD_eq_getElem?_getD, List.getElem?_set]
  by_cases h : k = i
  · subst h; simp [hk]
  · simp [h, List.getD_eq_getElem?_getD]
theorem at_get (l : List E) (i : Nat) (hi : i < l.length) : at' l i = (l[i]).1 := by
  unfold at'; rw [List.getD_eq_getElem?_getD, List.getElem?_eq_getElem hi]; rfl

/-- A hole moves: the same ends. -/
theorem perm_hole (a : List E) (k p : Nat) (e : E) (hk : k < a.length) (hp : p < a.length) (hne : k ≠ p) : ((a.set k (a.getD p (0, 0))).set p e).Perm (a.set k e) := by
  rw [List.perm_iff_count]
  intro x
  have hgp : a.getD p (0, 0) = a[p] := by rw [List.getD_eq_getElem?_getD, List.getElem?_eq_getElem hp]; rfl
  have h1 : p < (a.set k (a.getD p (0, 0))).length := by rw [List.length_set]; exact hp
  rw [List.count_set h1, List.count_set hk, List.count_set hk]
  have h2 : (a.set k (a.getD p (0, 0)))[p] = a[p] := by rw [List.getElem_set_ne hne]
  rw [h2, hgp]
  have c1 : (a[k] == x) = true → 1 ≤ List.count x a := fun h => by
    have : a[k] = x := by simpa using h
    exact List.count_pos_iff.2 (this ▸ List.getElem_mem hk)
  split <;> split <;> split <;> omega

/-! The order of a list: the latest first. -/
def Desc (l : List E) : Prop := ∀ i, i + 1 < l.length → at' l (i + 1) ≤ at' l i
/-- e is to stand at k or further left; all else is in order. -/
structure Gap (b : List E) (k : Nat) : Prop where
  pr : ∀ i, i + 1 < b.length → i + 1 ≠ k → at' b (i + 1) ≤ at' b i
  ov : ∀ i, i + 2 < b.length → i + 1 = k → at' b (i + 2) ≤ at' b i

theorem desc_le (l : List E) (h : Desc l) : ∀ d i, i + d < l.length → at' l (i + d) ≤ at' l i
  | 0, i, _ => Int.le_refl _
  | d + 1, i, hd => Int.le_trans (h (i + d) (by omega)) (desc_le l h d i (by omega))

theorem gap_start (l : List E) (e : E) (h : Desc l) : Gap (l ++ [e]) l.length := by
  have ha : ∀ i, i < l.length → at' (l ++ [e]) i = at' l i := fun i hi => by
    unfold at'; simp [List.getD_eq_getElem?_getD, List.getElem?_append_left hi]
  refine ⟨fun i hi hne => ?_, fun i hi he => ?_⟩
  · simp at hi
    rw [ha _ (by omega), ha _ (by omega)]
    exact h i (by omega)
  · simp at hi; omega
theorem gap_step (a : List E) (k : Nat) (e : E) (hk : k + 1 < a.length) (h : Gap (a.set (k + 1) e) (k + 1)) (hlt : at' a k < e.1) : Gap ((a.set (k + 1) (a.getD k (0, 0))).set k e) k := by
  have hl1 : (a.set (k + 1) (a.getD k (0, 0))).length = a.length := List.length_set
  have e1 : ∀ i, at' ((a.set (k + 1) (a.getD k (0, 0))).set k e) i = if k = i then e.1 else if k + 1 = i then at' a k else at' a i := fun i => by
    rw [at_set _ _ _ _ (by omega), at_set _ _ _ _ hk]; rfl
  have e2 : ∀ i, at' (a.set (k + 1) e) i = if k + 1 = i then e.1 else at' a i := fun i => at_set _ _ _ _ hk
  have hpr := h.pr
  have hov := h.ov
  simp only [e2, List.length_set] at hpr hov
  refine ⟨fun i hi hne => ?_, fun i hi he => ?_⟩
  · simp only [List.length_set] at hi
    rw [e1, e1]
    by_cases h1 : i = k
    · subst h1; simp; omega
    · by_cases h2 : i = k + 1
      · subst h2
        have := hov k (by omega) rfl
        rw [if_neg (by omega), if_neg (by omega)] at this
        rw [if_neg (by omega), if_neg (by omega), if_neg (by omega), if_pos rfl]
        exact this
      · have := hpr i hi (by omega)
        rw [if_neg (by omega), if_neg (by omega), if_neg (by omega), if_neg (by omega)]
        rw [if_neg (by omega), if_neg (by omega)] at this
        exact this
  · simp only [List.length_set] at hi
    rw [e1, e1]
    have := hpr i (by omega) (by omega)
    rw [if_neg (by omega), if_neg (by omega)] at this
    rw [if_neg (by omega), if_pos (by omega), if_neg (by omega), if_neg (by omega)]
    rw [← he]
    exact this
theorem gap_end0 (b : List E) (h : Gap b 0) : Desc b := fun i hi => h.pr i hi (by omega)
theorem gap_end (a : List E) (k : Nat) (e : E) (hk : k + 1 < a.length) (h : Gap (a.set (k + 1) e) (k + 1)) (hge : e.1 ≤ at' a k) : Desc (a.set (k + 1) e) := by
  intro i hi
  by_cases h1 : i = k
  · subst h1
    rw [at_set _ _ _ _ hk, at_set _ _ _ _ hk, if_pos rfl, if_neg (by omega)]
    exact hge
  · exact h.pr i hi (by omega)

/-! Heaps: the earliest first. -/
def IsHeap (l : List E) : Prop := ∀ j, 0 < j → j < l.length → at' l ((j - 1) / 2) ≤ at' l j
theorem heap_top (l : List E) (h : IsHeap l) : ∀ n j, j < n → j < l.length → at' l 0 ≤ at' l j
  | 0, j, hj, _ => by omega
  | n + 1, j, hj, hl => by
    by_cases h0 : j = 0
    · subst h0; exact Int.le_refl _
    · exact Int.le_trans (heap_top l h n ((j - 1) / 2) (by omega) (by omega)) (h j (by omega) hl)
/-- b's end at k may be too early for its place. -/
structure Up (b : List E) (k : Nat) : Prop where
  pr : ∀ j, 0 < j → j < b.length → j ≠ k → at' b ((j - 1) / 2) ≤ at' b j
  ov : ∀ j, 0 < j → j < b.length → (j - 1) / 2 = k → 0 < k → at' b ((k - 1) / 2) ≤ at' b j
theorem up_start (l : List E) (e : E) (h : IsHeap l) : Up (l ++ [e]) l.length := by
  have ha : ∀ i, i < l.length → at' (l ++ [e]) i = at' l i := fun i hi => by
    unfold at'; simp [List.getD_eq_getElem?_getD, List.getElem?_append_left hi]
  refine ⟨fun j h0 hj hne => ?_, fun j h0 hj he _ => ?_⟩
  · simp at hj
    rw [ha _ (by omega), ha _ (by omega)]
    exact h j h0 (by omega)
  · simp at hj; omega
theorem up_step (a : List E) (k p : Nat) (e : E) (hk : k < a.length) (h0 : 0 < k) (hp : p = (k - 1) / 2) (h : Up (a.set k e) k) (hlt : e.1 < at' a p) : Up ((a.set k (a.getD p (0, 0))).set p e) p := by
  have e1 : ∀ i, at' ((a.set k (a.getD p (0, 0))).set p e) i = if p = i then e.1 else if k = i then at' a p else at' a i := fun i => by
    rw [at_set _ _ _ _ (by rw [List.length_set]; omega), at_set _ _ _ _ hk]; rfl
  have e2 : ∀ i, at' (a.set k e) i = if k = i then e.1 else at' a i := fun i => at_set _ _ _ _ hk
  have hpr := h.pr
  have hov := h.ov
  simp only [e2, List.length_set] at hpr hov
  refine ⟨fun j hj0 hj hne => ?_, fun j hj0 hj he hp0 => ?_⟩
  · simp only [List.length_set] at hj
    rw [e1, e1, if_neg (Ne.symm hne)]
    by_cases h1 : j = k
    · subst h1
      rw [if_pos (by omega), if_pos rfl]
      omega
    · rw [if_neg (Ne.symm h1)]
      by_cases h2 : (j - 1) / 2 = p
      · rw [if_pos h2.symm]
        have := hpr j hj0 hj h1
        rw [h2, if_neg (by omega), if_neg (Ne.symm h1)] at this
        omega
      · rw [if_neg (Ne.symm h2)]
        by_cases h3 : (j - 1) / 2 = k
        · rw [if_pos h3.symm]
          have := hov j hj0 hj h3 h0
          rw [if_neg (by omega), if_neg (Ne.symm h1), ← hp] at this
          exact this
        · rw [if_neg (Ne.symm h3)]
          have := hpr j hj0 hj h1
          rw [if_neg (Ne.symm h3), if_neg (Ne.symm h1)] at this
          exact this
  · simp only [List.length_set] at hj
    rw [e1, e1, if_neg (by omega), if_neg (by omega), if_neg (by omega)]
    have hpp := hpr p hp0 (by omega) (by omega)
    rw [if_neg (by omega), if_neg (by omega)] at hpp
    by_cases h1 : j = k
    · rw [if_pos h1.symm]; exact hpp
    · rw [if_neg (Ne.symm h1)]
      have := hpr j hj0 hj h1
      rw [he, if_neg (by omega), if_neg (Ne.symm h1)] at this
      omega
theorem up_end0 (b : List E) (h : Up b 0) : IsHeap b := fun j h0 hj => h.pr j h0 hj (by omega)
theorem up_end (a : List E) (k p : Nat) (e : E) (hk : k < a.length) (h0 : 0 < k) (hp : p = (k - 1) / 2) (h : Up (a.set k e) k) (hle : at' a p ≤ e.1) : IsHeap (a.set k e) := by
  intro j hj0 hj
  by_cases h1 : j = k
  · subst h1
    rw [at_set _ _ _ _ hk, at_set _ _ _ _ hk, if_pos rfl, if_neg (by omega), ← hp]
    exact hle
  · exact h.pr j hj0 hj h1

/-- b's end at k may be too late for its place. -/
structure Down (b : List E) (k : Nat) : Prop where
  pr : ∀ j, 0 < j → j < b.length → (j - 1) / 2 ≠ k → at' b ((j - 1) / 2) ≤ at' b j
  ov : ∀ j, 0 < j → j < b.length → (j - 1) / 2 = k → 0 < k → at' b ((k - 1) / 2) ≤ at' b j
theorem down_start (l : List E) (e : E) (h : IsHeap l) : Down (l.set 0 e) 0 := by
  by_cases hl : 0 < l.length
  · refine ⟨fun j h0 hj hne => ?_, fun j h0 hj he hk => by omega⟩
    simp only [List.length_set] at hj
    rw [at_set _ _ _ _ hl, at_set _ _ _ _ hl, if_neg (by omega), if_neg (by omega)]
    exact h j h0 hj
  · exact ⟨fun j h0 hj _ => by simp only [List.length_set] at hj; omega, fun j h0 hj _ _ => by simp only [List.length_set] at hj; omega⟩
theorem down_step (a : List E) (k c : Nat) (e : E) (hc : c < a.length) (hck : c = 2 * k + 1 ∨ c = 2 * k + 2) (hmin : ∀ j, 0 < j → j < a.length → (j - 1) / 2 = k → at' a c ≤ at' a j) (h : Down (a.set k e) k) (hlt : at' a c < e.1) :
    Down ((a.set k (a.getD c (0, 0))).set c e) c := by
  have hk : k < a.length := by omega
  have e1 : ∀ i, at' ((a.set k (a.getD c (0, 0))).set c e) i = if c = i then e.1 else if k = i then at' a c else at' a i := fun i => by
    rw [at_set _ _ _ _ (by rw [List.length_set]; omega), at_set _ _ _ _ hk]; rfl
  have e2 : ∀ i, at' (a.set k e) i = if k = i then e.1 else at' a i := fun i => at_set _ _ _ _ hk
  have hpr := h.pr
  have hov := h.ov
  simp only [e2, List.length_set] at hpr hov
  refine ⟨fun j hj0 hj hne => ?_, fun j hj0 hj he hp0 => ?_⟩
  · simp only [List.length_set] at hj
    rw [e1, e1, if_neg (Ne.symm hne)]
    by_cases h1 : j = c
    · subst h1
      rw [if_pos (by omega), if_pos rfl]
      omega
    · rw [if_neg (Ne.symm h1)]
      by_cases h2 : (j - 1) / 2 = k
      · rw [if_pos h2.symm, if_neg (by omega)]
        exact hmin j hj0 hj h2
      · rw [if_neg (Ne.symm h2)]
        by_cases h3 : j = k
        · subst h3
          rw [if_pos rfl]
          have := hov c (by omega) hc (by omega) hj0
          rw [if_neg (by omega), if_neg (by omega)] at this
          exact this
        · rw [if_neg (Ne.symm h3)]
          have := hpr j hj0 hj h2
          rw [if_neg (Ne.symm h2), if_neg (Ne.symm h3)] at this
          exact this
  · simp only [List.length_set] at hj
    rw [e1, e1, show (c - 1) / 2 = k by omega, if_neg (by omega), if_pos rfl, if_neg (by omega), if_neg (by omega)]
    have := hpr j hj0 hj (by omega)
    rw [he, if_neg (by omega), if_neg (by omega)] at this
    exact this
theorem down_end (a : List E) (k : Nat) (e : E) (hk : k < a.length) (h : Down (a.set k e) k) (hmin : ∀ j, 0 < j → j < a.length → (j - 1) / 2 = k → e.1 ≤ at' a j) : IsHeap (a.set k e) := by
  intro j hj0 hj
  by_cases h1 : (j - 1) / 2 = k
  · rw [at_set _ _ _ _ hk, at_set _ _ _ _ hk, if_pos h1.symm, if_neg (by omega)]
    exact hmin j hj0 (by simpa using hj) h1
  · exact h.pr j hj0 hj h1

/-- A list in order, turned, is a heap. -/
theorem heap_reverse (l : List E) (h : Desc l) : IsHeap l.reverse := by
  have hr : ∀ i, i < l.length → at' l.reverse i = at' l (l.length - 1 - i) := fun i hi => by
    unfold at'; rw [List.getD_eq_getElem?_getD, List.getElem?_reverse hi, List.getD_eq_getElem?_getD]
  intro j h0 hj
  simp at hj
  rw [hr _ (by omega), hr _ hj]
  have := desc_le l h ((l.length - 1 - (j - 1) / 2) - (l.length - 1 - j)) (l.length - 1 - j) (by omega)
  rwa [show l.length - 1 - j + (l.length - 1 - (j - 1) / 2 - (l.length - 1 - j)) = l.length - 1 - (j - 1) / 2 by omega] at this

/-- What the program keeps: in order; or a heap of more than 32. -/
def Inv (l : List E) (hp : Bool) : Prop := if hp then IsHeap l ∧ 32 < l.length else Desc l

/-! Sums that wrap. -/
def S (l : List E) : Int := (l.map (·.2)).foldr (· + ·) 0
theorem S_nil : S [] = 0 := rfl
theorem S_cons (e : E) (l : List E) : S (e :: l) = e.2 + S l := rfl
theorem S_append (l m : List E) : S (l ++ m) = S l + S m := by
  induction l with
  | nil => simp [S_nil]
  | cons e l ih => rw [List.cons_append, S_cons, S_cons, ih]; omega
theorem S_perm {l m : List E} (h : l.Perm m) : S l = S m := by
  induction h with
  | nil => rfl
  | cons e _ ih => rw [S_cons, S_cons, ih]
  | swap a b l => rw [S_cons, S_cons, S_cons, S_cons]; omega
  | trans _ _ h1 h2 => exact h1.trans h2
theorem wrap_add (x y : Int) : IntKind.i64.wrap (IntKind.i64.wrap x + y) = IntKind.i64.wrap (x + y) := by
  rw [IntKind.wrap_i64, IntKind.wrap_i64, IntKind.wrap_i64]
  omega

/-- The ends after t; those at t or before. -/
def later (t : Int) (l : List E) : List E := l.filter fun e => decide (t < e.1)
def early (t : Int) (l : List E) : List E := l.filter fun e => decide (e.1 ≤ t)
theorem early_later (t : Int) (l : List E) : (early t l ++ later t l).Perm l := by
  induction l with
  | nil => exact List.Perm.refl _
  | cons e l ih =>
    unfold early later at *
    by_cases h : e.1 ≤ t
    · rw [List.filter_cons_of_pos (by simpa using h), List.filter_cons_of_neg (by simp; omega), List.cons_append]
      exact ih.cons e
    · rw [List.filter_cons_of_neg (by simpa using h), List.filter_cons_of_pos (by simp; omega)]
      exact List.perm_middle.trans (ih.cons e)

/-- What is left and what was taken out: R. -/
theorem split_at {t : Int} {l R m : List E} (h : l.Perm (R ++ m)) (hR : ∀ e ∈ R, e.1 ≤ t) (hm : ∀ e ∈ m, t < e.1) : (later t l).Perm m ∧ S R = S (early t l) := by
  have h1 : later t R = [] := by
    unfold later; rw [List.filter_eq_nil_iff]; intro e he; have := hR e he; simp; omega
  have h2 : later t m = m := by
    unfold later; rw [List.filter_eq_self]; intro e he; have := hm e he; simpa using this
  have h3 : early t R = R := by
    unfold early; rw [List.filter_eq_self]; intro e he; have := hR e he; simpa using this
  have h4 : early t m = [] := by
    unfold early; rw [List.filter_eq_nil_iff]; intro e he; have := hm e he; simp; omega
  constructor
  · have := h.filter fun e => decide (t < e.1)
    rw [List.filter_append] at this
    have e1 : List.filter (fun e => decide (t < e.1)) R = [] := h1
    have e2 : List.filter (fun e => decide (t < e.1)) m = m := h2
    rw [e1, e2, List.nil_append] at this
    exact this
  · have := h.filter fun e => decide (e.1 ≤ t)
    rw [List.filter_append] at this
    have e1 : List.filter (fun e => decide (e.1 ≤ t)) R = R := h3
    have e2 : List.filter (fun e => decide (e.1 ≤ t)) m = [] := h4
    rw [e1, e2, List.append_nil] at this
    exact (S_perm this).symm

theorem mem_at {l : List E} {e : E} (h : e ∈ l) : ∃ i, i < l.length ∧ at' l i = e.1 := by
  obtain ⟨i, hi, rfl⟩ := List.getElem_of_mem h
  exact ⟨i, hi, at_get l i hi⟩

#print axioms split_at
#print axioms heap_reverse
#print axioms wrap_add
#print axioms down_end
end Go.Proofs.Ybulkcfwe
