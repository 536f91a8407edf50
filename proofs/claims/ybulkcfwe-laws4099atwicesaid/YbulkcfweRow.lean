/-
  A row of ends in memory.
-/
import Derived.Test.YbulkcfweRows
import Derived.Test.YbulkcfweHeap
import Derived.Test.YbulkcfweLists
import Derived.Deep.QuietTactic
import Derived.Deep.LoopGhost
import Derived.Deep.DeepCutAuto
import Derived.BigQuiet
namespace Go.Proofs.Ybulkcfwe
open Go.RowKit

def enc (e : E) : List Value := [.int .i64 e.1, .int .i64 e.2]
def flat (l : List E) : List Value := l.flatMap enc
theorem flat_length (l : List E) : (flat l).length = l.length * 2 := flat_len enc 2 (fun _ => rfl) l
theorem flat_nil : flat [] = [] := rfl
theorem flat_snoc (l : List E) (e : E) : flat (l ++ [e]) = flat l ++ enc e := by simp [flat]
theorem flat_one (l : List E) : ∀ u ∈ flat l, u.oneCell' = true := by
  intro u hu
  simp only [flat, List.mem_flatMap] at hu
  obtain ⟨e, _, he⟩ := hu
  simp only [enc, List.mem_cons, List.not_mem_nil, or_false] at he
  rcases he with rfl | rfl <;> rfl
theorem flat_0 (l : List E) (j : Nat) (hj : j < l.length) : (flat l)[j * 2]? = some (.int .i64 (at' l j)) := by
  have := flat_get enc 2 (fun _ => rfl) l j 0 (by omega)
  rw [Nat.add_zero] at this
  unfold flat
  rw [this, List.getElem?_eq_getElem hj, at_get l j hj]
  rfl
def pr' (l : List E) (i : Nat) : Int := (l.getD i (0, 0)).2
theorem flat_1 (l : List E) (j : Nat) (hj : j < l.length) : (flat l)[j * 2 + 1]? = some (.int .i64 (pr' l j)) := by
  have := flat_get enc 2 (fun _ => rfl) l j 1 (by omega)
  unfold flat
  rw [this, List.getElem?_eq_getElem hj]
  unfold pr'
  rw [List.getD_eq_getElem?_getD, List.getElem?_eq_getElem hj]
  rfl
theorem getD_pair (l : List E) (i : Nat) : l.getD i (0, 0) = (at' l i, pr' l i) := rfl

/-- The ends l lie from block g's head on; the row is the call's own. -/
def Row (w : World) (base g cap : Nat) (l : List E) : Prop := w.ownsRow base 31 2 (.slice (some ⟨g, 0, none⟩) l.length cap) l.length (flat l)
theorem Row.c0 {w : World} {base g cap : Nat} {l : List E} (h : Row w base g cap l) (j : Nat) (hj : j < l.length) : w.cell? ⟨g, j * 2, none⟩ = some (.int .i64 (at' l j)) := by
  rw [World.ownsRow.cellAt h (j * 2) (by omega)]; exact flat_0 l j hj
theorem Row.c1 {w : World} {base g cap : Nat} {l : List E} (h : Row w base g cap l) (j : Nat) (hj : j < l.length) : w.cell? ⟨g, j * 2 + 1, none⟩ = some (.int .i64 (pr' l j)) := by
  rw [World.ownsRow.cellAt h (j * 2 + 1) (by omega)]; exact flat_1 l j hj
theorem Row.free {w : World} {base g cap : Nat} {l : List E} (h : Row w base g cap l) (j : Nat) : w.frozen? ⟨g, j, none⟩ = false := World.ownsRow.frozenAt h j
theorem Row.lt {w : World} {base g cap : Nat} {l : List E} (h : Row w base g cap l) : base ≤ g ∧ g < w.heap.size := World.ownsRow.lt h g rfl
theorem Row.set {w : World} {base g cap : Nat} {l : List E} (h : Row w base g cap l) (j : Nat) (e : E) (hj : j < l.length) : Row ((w.setCell ⟨g, j * 2, none⟩ (.int .i64 e.1)).setCell ⟨g, j * 2 + 1, none⟩ (.int .i64 e.2)) base g cap (l.set j e) := by
  have h1 := (World.ownsRow.stored h (j * 2) (.int .i64 e.1)).1
  have h2 := (World.ownsRow.stored h1 (j * 2 + 1) (.int .i64 e.2)).1
  unfold Row
  have hf : ((flat l).set (j * 2) (.int .i64 e.1)).set (j * 2 + 1) (.int .i64 e.2) = flat (l.set j e) := by
    have f1 := flat_set enc 2 (fun _ => rfl) (e.1, pr' l j) (.int .i64 e.1) 0 (by omega) l j (fun x hx => by
      have : pr' l j = x.2 := by unfold pr'; rw [List.getD_eq_getElem?_getD, hx]; rfl
      rw [this]; rfl) hj
    rw [Nat.add_zero] at f1
    unfold flat
    rw [f1]
    have f2 := flat_set enc 2 (fun _ => rfl) e (.int .i64 e.2) 1 (by omega) (l.set j (e.1, pr' l j)) j (fun x hx => by
      rw [List.getElem?_set_self hj] at hx
      simp at hx
      subst hx; rfl) (by rw [List.length_set]; exact hj)
    rw [f2, List.set_set]
  rw [hf] at h2
  rw [List.length_set]
  exact h2
theorem Row.keep {w w' : World} {base g cap : Nat} {l : List E} (h : Row w base g cap l) (hk : w'.heap[g]? = w.heap[g]?) : Row w' base g cap l := by
  obtain ⟨h1, h2⟩ := h
  refine ⟨h1, ?_⟩
  rcases h2 with ⟨h2, _⟩ | ⟨g', cap', cur, hv, hb, hg, hr⟩
  · simp at h2
  · right
    refine ⟨g', cap', cur, hv, hb, ?_, hr⟩
    simp only [Value.slice.injEq, Option.some.injEq, Addr.mk.injEq, and_true, true_and] at hv
    obtain ⟨rfl, _⟩ := hv
    rw [hk]; exact hg
theorem Row.cap {w : World} {base g cap : Nat} {l : List E} (h : Row w base g cap l) : l.length ≤ cap := by
  obtain ⟨_, h2⟩ := h
  rcases h2 with ⟨h2, _⟩ | ⟨g', cap', cur, hv, hb, hg, hr, _⟩
  · simp at h2
  · simp only [Value.slice.injEq, Option.some.injEq, Addr.mk.injEq, and_true, true_and] at hv
    obtain ⟨_, rfl⟩ := hv
    exact hr
theorem Row.kept {b : Nat} {p : Nat → Prop} {w w' : World} {base g cap : Nat} {l : List E} (h : Row w base g cap l) (hk : Kept b p w w') (hb : g < b) (hp : ¬ p g) : Row w' base g cap l := h.keep (hk.block g hb hp)
theorem Row.base {w : World} {base base' g cap : Nat} {l : List E} (h : Row w base g cap l) (hb : base' ≤ base) : Row w base' g cap l := by
  obtain ⟨h1, h2⟩ := h
  refine ⟨h1, ?_⟩
  rcases h2 with ⟨h2, _⟩ | ⟨g', cap', cur, hv, hbb, hr⟩
  · simp at h2
  · exact Or.inr ⟨g', cap', cur, hv, by omega, hr⟩
theorem Kept.ofBelow {base B : Nat} {p : Nat → Prop} {a b : World} (h : Below B a b) (hb : base ≤ B) : Kept base p a b := ⟨h.os, h.tape, h.output, h.size, fun k hk _ => h.block k (by omega)⟩

#print axioms Row.set
end Go.Proofs.Ybulkcfwe
