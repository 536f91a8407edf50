/-
  The contract of zzs4099abuild.
-/
import Derived.Test.YbulkcfweInv
namespace Go.Proofs.Ybulkcfwe
open Go.RowKit

/-- h holds some order of the ends L; all holds A. -/
structure Built (w0 w : World) (bh : Nat) (L A : List E) (va : Value) : Prop where
  hs : ∃ v l hp, Hs w bh (bh + 1) v l hp ∧ l.Perm L ∧ Inv l hp ∧ l.length = L.length ∧ (∀ k, v.ownBlock = some k → va.ownBlock ≠ some k)
  ra : w.ownsRow (bh + 1) 31 2 va A.length (flat A)
  bl : Below bh w0 w
theorem Built.base {w0 w : World} {bh : Nat} {L A : List E} {va : Value} (h : Built w0 w bh L A va) : bh + 1 ≤ w.heap.size := by
  obtain ⟨v, l, hp, hH, _⟩ := h.hs
  exact hH.hi

/-- One end more: the push. -/
theorem Built.push {w0 w w1 : World} {bh bx : Nat} {A : List E} {va : Value} (h : Built w0 w bh A A va) (e : E) (hl : A.length ≤ 1999) (hk : Kept w.heap.size (fun _ => False) w w1) (hx : Blk w1 bx 31 [.int .i64 e.1, .int .i64 e.2]) (hbx : bx = w.heap.size) :
    Calls Yba.prog 9 #[.pointer (some ⟨bh, 0, none⟩), .agg #[.int .i64 e.1, .int .i64 e.2]] w1 fun r w' => r = .returned (.tuple #[]) ∧ Built w0 w' bh (e :: A) A va ∧ Blk w' bx 31 [.int .i64 e.1, .int .i64 e.2] := by
  obtain ⟨v, l, hp, hH, hpm, hI, hll, hne⟩ := h.hs
  have hvb := World.ownsRow.lt hH.hr
  have hva := World.ownsRow.lt h.ra
  have hH1 : Hs w1 bh (bh + 1) v l hp := ⟨hH.hb.kept hk hH.hb.lt (fun h => h), own_keep hH.hr (fun g hg => hk.block g (hvb g hg).2 (fun h => h)), hH.lo, by have := hH.hi; have := hk.size; omega⟩
  have hra1 : w1.ownsRow (bh + 1) 31 2 va A.length (flat A) := own_keep h.ra (fun g hg => hk.block g (hva g hg).2 (fun h => h))
  have hsz := hk.size
  refine (push_any bh (bh + 1) v l hp e w1 hH1 hI (by omega)).mono ?_
  rintro _ w' ⟨rfl, g, cap, b, hp', h1, h2, h3, h4, h5, h6⟩
  refine ⟨rfl, ⟨⟨_, b, hp', h1, h2.trans (hpm.cons e), h3, by simp; omega, ?_⟩, ?_, ?_⟩, ?_⟩
  · intro k hk hk2
    simp only [Value.ownBlock, Option.some.injEq] at hk
    subst hk
    rcases h6 with h6 | h6
    · exact hne g h6 hk2
    · have := (hva g hk2).2; omega
  · refine own_keep hra1 (fun k hk => h5.block k (by have := (hva k hk).2; omega) ?_)
    rintro (h7 | h7)
    · have := (hva k hk).1; omega
    · exact hne k h7 hk
  · exact (h.bl.trans (hk.below (by have := hH.hi; omega) (fun _ h => h.elim))).trans (h5.below (by have := hH.hi; omega) (fun k hk => by
      rcases hk with rfl | hk
      · exact Nat.le_refl _
      · have := (hvb k hk).1; omega))
  · refine hx.kept h5 hx.lt ?_
    rintro (h7 | h7)
    · have := hH.hi; omega
    · have := (hvb bx h7).2; omega

/-- .. the append to all. -/
theorem Built.app {w0 w w' : World} {bh g cap : Nat} {A : List E} {va : Value} {e : E} {o : Obj} (h : Built w0 w bh (e :: A) A va) (hr : Row w' (bh + 1) g cap (A ++ [e])) (hg : (w.alloc o).grownBy w' va.ownBlock) (hw : va.ownBlock = some g ∨ (w.alloc o).heap.size ≤ g) :
    Built w0 w' bh (A ++ [e]) (A ++ [e]) (.slice (some ⟨g, 0, none⟩) (A.length + 1) cap) := by
  obtain ⟨v, l, hp, hH, hpm, hI, hll, hne⟩ := h.hs
  have hvb := World.ownsRow.lt hH.hr
  have hva := World.ownsRow.lt h.ra
  have hsz := hg.size
  simp at hsz
  have hkb : ∀ k, k < w.heap.size → va.ownBlock ≠ some k → w'.heap[k]? = w.heap[k]? := fun k hk hne => (hg.block k (by simp; omega) (fun h => hne h.symm)).trans (Below.heap_alloc _ _ _ hk)
  refine ⟨⟨v, l, hp, ⟨hH.hb.keep (hkb bh hH.hb.lt (fun h => by have := (hva bh h).1; omega)), own_keep hH.hr (fun k hk => hkb k (hvb k hk).2 (hne k hk)), hH.lo, by have := hH.hi; omega⟩, hpm.trans (List.perm_append_comm (l₁ := [e])), hI, by simpa using hll, ?_⟩, ?_, ?_⟩
  · intro k hk hk2
    simp only [Value.ownBlock, Option.some.injEq] at hk2
    subst hk2
    rcases hw with h7 | h7
    · exact hne g hk h7
    · have := (hvb g hk).2; simp at h7; omega
  · have := own_row hr
    rw [List.length_append, List.length_singleton] at this
    rw [List.length_append, List.length_singleton]
    exact this
  · exact h.bl.trans ⟨hg.os, hg.tape, hg.output, by omega, fun k hk => hkb k (by have := hH.hi; omega) (fun h => by have := (hva k h).1; omega)⟩

#print axioms Built.app
end Go.Proofs.Ybulkcfwe
