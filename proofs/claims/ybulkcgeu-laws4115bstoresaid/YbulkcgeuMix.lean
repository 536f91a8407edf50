/-
  Plain lists: a row that is filled from its head on; what a whole stored row does.
-/
import Derived.Test.YbulkcgeuLists
namespace Go.Proofs.Ybulkcgeu
open Go.RowKit

/-- Of n places the first k hold f, the others g. -/
def mix {α : Type} (f g : Nat → α) (n k : Nat) : List α := (List.range n).map fun j => if j < k then f j else g j
theorem mix_len {α : Type} (f g : Nat → α) (n k : Nat) : (mix f g n k).length = n := by simp [mix]
theorem mix_get {α : Type} (f g : Nat → α) (n k j : Nat) (hj : j < n) : (mix f g n k)[j]? = some (if j < k then f j else g j) := by simp [mix, hj]
theorem mix_set {α : Type} (f g : Nat → α) (n k : Nat) (y : α) (hy : y = f k) : (mix f g n k).set k y = mix f g n (k + 1) := by
  subst hy
  apply List.ext_getElem?
  intro j
  by_cases hj : j < n
  · by_cases e : k = j
    · subst e
      rw [List.getElem?_set_self (by rw [mix_len]; exact hj), mix_get _ _ _ _ _ hj, if_pos (by omega)]
    · rw [List.getElem?_set_ne e, mix_get _ _ _ _ _ hj, mix_get _ _ _ _ _ hj]
      by_cases h : j < k
      · rw [if_pos h, if_pos (by omega)]
      · rw [if_neg h, if_neg (by omega)]
  · rw [List.getElem?_eq_none (by rw [List.length_set, mix_len]; omega), List.getElem?_eq_none (by rw [mix_len]; omega)]
theorem mix_zero {α : Type} (f : Nat → α) (c : α) (n : Nat) : mix f (fun _ => c) n 0 = List.replicate n c := by
  apply List.ext_getElem?
  intro j
  by_cases hj : j < n
  · rw [mix_get _ _ _ _ _ hj]; simp [hj]
  · rw [List.getElem?_eq_none (by rw [mix_len]; omega)]; simp [hj]


theorem mix_full {α : Type} (f g : Nat → α) (n : Nat) : mix f g n n = (List.range n).map f := by
  apply List.ext_getElem?
  intro j
  by_cases hj : j < n
  · rw [mix_get _ _ _ _ _ hj, if_pos hj]; simp [hj]
  · rw [List.getElem?_eq_none (by rw [mix_len]; omega)]; simp [hj]

/-- A row of integers, of bools. -/
def intsR (k : IntKind) (l : List Int) : List Value := l.map (Value.int k)
def boolsR (l : List Bool) : List Value := l.map Value.bool
theorem intsR_get (k : IntKind) (l : List Int) (j : Nat) (hj : j < l.length) : (intsR k l)[j]? = some (.int k (l.getD j 0)) := by simp [intsR, hj]
theorem boolsR_get (l : List Bool) (j : Nat) (hj : j < l.length) : (boolsR l)[j]? = some (.bool (l.getD j false)) := by simp [boolsR, hj]
theorem intsR_set (k : IntKind) (l : List Int) (j : Nat) (x : Int) : (intsR k l).set j (.int k x) = intsR k (l.set j x) := by simp [intsR, List.map_set]
theorem boolsR_set (l : List Bool) (j : Nat) (x : Bool) : (boolsR l).set j (.bool x) = boolsR (l.set j x) := by simp [boolsR, List.map_set]
theorem intsR_one (k : IntKind) (l : List Int) : ∀ u ∈ intsR k l, u.oneCell' = true := by
  intro u hu
  simp only [intsR, List.mem_map] at hu
  obtain ⟨x, _, rfl⟩ := hu
  rfl

/-- Three cells of a span. -/
def span3 (v : Int) (ok : Bool) (c : Nat) : List Value := [.int .i64 v, .bool ok, .int .i64 (c : Int)]

/-! What the stores do to the two rows. -/
abbrev Pair := List Int × List Bool
def inn (at' : Nat → Nat) (v : Int) : Nat → Pair → Pair
  | 0, x => x
  | j + 1, x => (((inn at' v j x).1).set (at' j) v, ((inn at' v j x).2).set (at' j) true)
/-- pos: where the paths of span k begin. -/
def outT (v : Nat → Int) (ok : Nat → Bool) (cnt pos : Nat → Nat) (at' : Nat → Nat) (x : Pair) : Nat → Pair
  | 0 => x
  | k + 1 => if ok k = true then inn (fun j => at' (pos k + j)) (v k) (cnt k) (outT v ok cnt pos at' x k) else outT v ok cnt pos at' x k
theorem inn_len (at' : Nat → Nat) (v : Int) (x : Pair) : ∀ j, (inn at' v j x).1.length = x.1.length ∧ (inn at' v j x).2.length = x.2.length
  | 0 => ⟨rfl, rfl⟩
  | j + 1 => by
    obtain ⟨h1, h2⟩ := inn_len at' v x j
    exact ⟨by rw [inn, List.length_set, h1], by rw [inn, List.length_set, h2]⟩
theorem outT_len (v : Nat → Int) (ok : Nat → Bool) (cnt pos : Nat → Nat) (at' : Nat → Nat) (x : Pair) : ∀ k, (outT v ok cnt pos at' x k).1.length = x.1.length ∧ (outT v ok cnt pos at' x k).2.length = x.2.length
  | 0 => ⟨rfl, rfl⟩
  | k + 1 => by
    obtain ⟨h1, h2⟩ := outT_len v ok cnt pos at' x k
    unfold outT
    split
    · obtain ⟨h3, h4⟩ := inn_len (fun j => at' (pos k + j)) (v k) (outT v ok cnt pos at' x k) (cnt k)
      exact ⟨h3.trans h1, h4.trans h2⟩
    · exact ⟨h1, h2⟩

#print axioms outT_len
end Go.Proofs.Ybulkcgeu
