/-
  Plain facts on blocks of cells of the call's own: reading, storing, what stays. No program in sight.
-/
import Derived.WalkKit
import Derived.WalkSpells
import Derived.WalkLawsBesides
namespace Go.Proofs.Ybulkcfwe
open Go.RowKit

/-- Block b holds the cells xs of type e, none frozen. -/
def Blk (w : World) (b : Nat) (e : TypeId) (xs : List Value) : Prop := w.heap[b]? = some (.cells xs.toArray e (0, 0))

theorem Blk.cell {w : World} {b : Nat} {e : TypeId} {xs : List Value} (h : Blk w b e xs) (j : Nat) : w.cell? ⟨b, j, none⟩ = xs[j]? := by
  unfold Blk at h; simp [World.cell?, h]
theorem Blk.free {w : World} {b : Nat} {e : TypeId} {xs : List Value} (h : Blk w b e xs) (j : Nat) : w.frozen? ⟨b, j, none⟩ = false := by
  unfold Blk at h; simp [World.frozen?, h]
theorem Blk.lt {w : World} {b : Nat} {e : TypeId} {xs : List Value} (h : Blk w b e xs) : b < w.heap.size := lt_of_block h
theorem Blk.set {w : World} {b : Nat} {e : TypeId} {xs : List Value} (h : Blk w b e xs) (j : Nat) (u : Value) : Blk (w.setCell ⟨b, j, none⟩ u) b e (xs.set j u) := by
  unfold Blk at *
  rw [heap_setCell_same w b j _ e u h]; simp
theorem Blk.other {w : World} {b : Nat} {e : TypeId} {xs : List Value} (h : Blk w b e xs) {a : Addr} (hne : b ≠ a.block) (u : Value) : Blk (w.setCell a u) b e xs := by
  unfold Blk at *
  rw [heap_setCell_other w a b u hne]; exact h
theorem Blk.keep {w w' : World} {b : Nat} {e : TypeId} {xs : List Value} (h : Blk w b e xs) (hk : w'.heap[b]? = w.heap[b]?) : Blk w' b e xs := by
  unfold Blk at *; rw [hk]; exact h
theorem Blk.drewN {w : World} {b : Nat} {e : TypeId} {xs : List Value} (h : Blk w b e xs) (n : Nat) : Blk (w.drewN n) b e xs := h
theorem Blk.alloc {w : World} {b : Nat} {e : TypeId} {xs : List Value} (h : Blk w b e xs) (o : Obj) : Blk (w.alloc o) b e xs :=
  h.keep (Below.heap_alloc w o b h.lt)
theorem Blk.made {w : World} {e : TypeId} (xs : Array Value) : Blk (w.alloc (.cells xs e)) w.heap.size e xs.toList := by
  unfold Blk; rw [heap_alloc_new]
theorem Blk.grown {w w' : World} {b : Nat} {e : TypeId} {xs : List Value} {row : Option Nat} (h : Blk w b e xs) (hg : w.grownBy w' row) (hne : some b ≠ row) : Blk w' b e xs :=
  h.keep (hg.block b h.lt hne)

/-- Below block 'base', but for the blocks that p names, w' is as w was. -/
structure Kept (base : Nat) (p : Nat → Prop) (w w' : World) : Prop where
  os : w'.os = w.os
  tape : w'.tape = w.tape
  output : w'.output = w.output
  size : w.heap.size ≤ w'.heap.size
  block : ∀ k, k < base → ¬ p k → w'.heap[k]? = w.heap[k]?

theorem Kept.refl (base : Nat) (p : Nat → Prop) (w : World) : Kept base p w w := ⟨rfl, rfl, rfl, Nat.le_refl _, fun _ _ _ => rfl⟩
theorem Kept.trans {base : Nat} {p : Nat → Prop} {a b c : World} (h : Kept base p a b) (k : Kept base p b c) : Kept base p a c :=
  ⟨k.os.trans h.os, k.tape.trans h.tape, k.output.trans h.output, Nat.le_trans h.size k.size, fun i hi hp => (k.block i hi hp).trans (h.block i hi hp)⟩
theorem Kept.mono {base base' : Nat} {p p' : Nat → Prop} {a b : World} (h : Kept base p a b) (hb : base' ≤ base) (hp : ∀ k, p k → p' k) : Kept base' p' a b :=
  ⟨h.os, h.tape, h.output, h.size, fun k hk hk' => h.block k (Nat.lt_of_lt_of_le hk hb) (fun e => hk' (hp k e))⟩
theorem Kept.drewN {base : Nat} {p : Nat → Prop} {a b : World} (h : Kept base p a b) (n : Nat) : Kept base p a (b.drewN n) := ⟨h.os, h.tape, h.output, h.size, h.block⟩
theorem Kept.drew {base : Nat} {p : Nat → Prop} {a b : World} (h : Kept base p a b) : Kept base p a b.drew := ⟨h.os, h.tape, h.output, h.size, h.block⟩
theorem Kept.alloc {base : Nat} {p : Nat → Prop} {a b : World} (h : Kept base p a b) (hb : base ≤ b.heap.size) (o : Obj) : Kept base p a (b.alloc o) :=
  h.trans ⟨rfl, rfl, rfl, by simp, fun k hk _ => Below.heap_alloc _ _ _ (by omega)⟩
theorem Kept.setCell {base : Nat} {p : Nat → Prop} {a b : World} (h : Kept base p a b) {x : Addr} (hx : p x.block ∨ base ≤ x.block) (u : Value) : Kept base p a (b.setCell x u) :=
  h.trans ⟨rfl, rfl, rfl, by simp [World.setCell], fun k hk hp => Below.heap_setCell _ _ _ _ (fun e => by rcases hx with hx | hx; exact hp (e ▸ hx); omega)⟩
theorem Kept.grown {base : Nat} {p : Nat → Prop} {a b c : World} {row : Option Nat} (h : Kept base p a b) (hg : b.grownBy c row) (hb : base ≤ b.heap.size) (hr : ∀ k, row = some k → base ≤ k) : Kept base p a c :=
  h.trans ⟨hg.os, hg.tape, hg.output, hg.size, fun k hk _ => hg.block k (by omega) (fun e => by have := hr k e.symm; omega)⟩
theorem Kept.below {base B : Nat} {p : Nat → Prop} {a b : World} (h : Kept base p a b) (hb : B ≤ base) (hp : ∀ k, p k → B ≤ k) : Below B a b :=
  ⟨h.os, h.tape, h.output, h.size, fun k hk => h.block k (by omega) (fun e => by have := hp k e; omega)⟩
theorem Blk.kept {base : Nat} {p : Nat → Prop} {w w' : World} {b : Nat} {e : TypeId} {xs : List Value} (h : Blk w b e xs) (hk : Kept base p w w') (hb : b < base) (hp : ¬ p b) : Blk w' b e xs :=
  h.keep (hk.block b hb hp)

#print axioms Blk.kept
end Go.Proofs.Ybulkcfwe
