/-
  append of one end to a row of the call's own: in place or in a new block.
-/
import Derived.Test.YbulkcfweRev
import Derived.Deep.RegionLaw
import Derived.ArgAppend
namespace Go.Proofs.Ybulkcfwe
open Go.RowKit

theorem info31 : (Yba.prog.info? 31).map (fun i => (i.zero, i.size, i.bytes)) = some (some (.agg #[.int .i64 0, .int .i64 0]), 2, 16) := by kernel_rfl

theorem app_run (w : World) (base : Nat) (v : Value) (l : List E) (e : E) (ad : Addr) (c : Nat) (ty : TypeId) (hown : w.ownsRow base 31 2 v l.length (flat l)) (hnews : ∀ j u, (enc e)[j]? = some u → w.cell? (ad.add j) = some u) (hl : l.length ≤ 2000) (hb : base ≤ w.heap.size) :
    ∃ g cap w', (Builtin.append_ #[26, 26] ty #[v, .slice (some ad) 1 c]).run Yba.prog w = .ok (.slice (some ⟨g, 0, none⟩) (l.length + 1) cap) w' ∧ Row w' base g cap (l ++ [e]) ∧ w.grownBy w' v.ownBlock ∧ (v.ownBlock = some g ∨ w.heap.size ≤ g) := by
  obtain ⟨i0, hi, hz0, hz1, hz2⟩ := info_parts info31
  have hone : ∀ u ∈ enc e, u.oneCell' = true := by
    intro u hu
    simp only [enc, List.mem_cons, List.not_mem_nil, or_false] at hu
    rcases hu with rfl | rfl <;> rfl
  have hmk : ∀ (B : Nat) (v' : Value) (w' : World), w'.ownsRow B 31 2 v' (l.length + 1) (flat l ++ enc e) → ∃ g cap, v' = .slice (some ⟨g, 0, none⟩) (l.length + 1) cap ∧ Row w' B g cap (l ++ [e]) := by
    intro B v' w' h
    rcases h.2 with ⟨_, h0⟩ | ⟨g, cap, cur, hv, _⟩
    · omega
    · refine ⟨g, cap, hv, ?_⟩
      unfold Row
      rw [flat_snoc, List.length_append, List.length_singleton, ← hv]
      exact h
  rcases hown.2 with ⟨hv, h0⟩ | ⟨g0, cap0, cur, hv, hg0, _⟩
  · subst hv
    obtain ⟨v', w', hrun, r1, r2, _⟩ := run_append_own (P := Yba.prog) w w.heap.size 26 ty 31 i0 _ 2 16 Yba.underlying26 hi hz0 hz1 hz2 rfl (by decide) (.slice none 0 0) l.length (flat l) (by rw [h0] at hown ⊢; exact ⟨hown.1, Or.inl ⟨rfl, rfl⟩⟩) ad 1 c (enc e) rfl hnews hone (by unfold maxLen; omega) (by omega) (Nat.le_refl _)
    obtain ⟨g, cap, rfl, hrow⟩ := hmk _ _ _ r1
    exact ⟨g, cap, w', hrun, hrow.base hb, r2, Or.inr hrow.lt.1⟩
  · subst hv
    by_cases hroom : l.length + 1 ≤ cap0
    · obtain ⟨w', hrun, r1, r2⟩ := run_append_fits (P := Yba.prog) w base 26 ty 31 i0 2 Yba.underlying26 hi hz1 g0 l.length cap0 (flat l) hown ad 1 c (enc e) rfl hnews hone hroom
      obtain ⟨g, cap, hv, hrow⟩ := hmk _ _ _ r1
      simp only [Value.slice.injEq, Option.some.injEq, Addr.mk.injEq, and_true, true_and] at hv
      obtain ⟨rfl, rfl⟩ := hv
      exact ⟨g0, cap0, w', hrun, hrow, r2, Or.inl rfl⟩
    · have hcl := hown.cells (g := g0) rfl
      obtain ⟨v', w', hrun, r1, r2⟩ := run_append_arg_grows (P := Yba.prog) w 26 ty 31 i0 _ 2 16 Yba.underlying26 hi hz0 hz1 hz2 rfl (by decide) ⟨g0, 0, none⟩ l.length cap0 (flat l) (flat_length l) hcl ad 1 c (enc e) rfl hnews (by omega) (by unfold maxLen; omega) (by omega)
      obtain ⟨g, cap, rfl, hrow⟩ := hmk _ _ _ r1
      exact ⟨g, cap, w', hrun, hrow.base hb, ⟨r2.os, r2.tape, r2.output, r2.size, fun k hk _ => r2.block k hk (by simp)⟩, Or.inr hrow.lt.1⟩

/-- append as one step of a region that draws its order. -/
theorem step_app {ops : Array Oper} {o : Oper} {a : Act} {w : World} {K : Act → World → Prop} {Q : Exit → Act → World → Prop} {F : Prop}
    (hg : o.guard = none) (s x : Operand) (hop : o.op = Op.call { callee := Callee.builtin Builtin.append, args := #[s, x], argTypes := #[26, 26] })
    (base : Nat) (v : Value) (l : List E) (e : E) (hs : a.eval s = v) (hown : w.ownsRow base 31 2 v l.length (flat l)) (ad : Addr) (c : Nat) (hx : a.eval x = .slice (some ad) 1 c) (hnews : ∀ j u, (enc e)[j]? = some u → w.cell? (ad.add j) = some u) (hl : l.length ≤ 2000) (hb : base ≤ w.heap.size)
    (hK : ∀ g cap w', Row w' base g cap (l ++ [e]) → w.grownBy w' v.ownBlock → (v.ownBlock = some g ∨ w.heap.size ≤ g) → K (a.put o.dst (.slice (some ⟨g, 0, none⟩) (l.length + 1) cap)) w') :
    if Region.wanted o (yielded ops a.tmps) = true then Oper.wp Yba.prog o a w K Q else F := by
  have hw : Region.wanted o (yielded ops a.tmps) = true := by simp [Region.wanted, hg]
  rw [if_pos hw]
  obtain ⟨g, cap, w', hrun, r1, r2, r3⟩ := app_run w base v l e ad c o.type hown hnews hl hb
  unfold Oper.wp
  simp [execOp, hop, resolve, invoke, builtin, hs, hx, hrun, Result.andThen]
  exact hK g cap w' r1 r2 r3

/-- append in a plain region. -/
theorem wpList_app {ops : Array Oper} {rest : List Oper} {o : Oper} {a : Act} {w : World} {Q : Exit → Act → World → Prop}
    (hg : o.guard = none) (s x : Operand) (hop : o.op = Op.call { callee := Callee.builtin Builtin.append, args := #[s, x], argTypes := #[26, 26] })
    (base : Nat) (v : Value) (l : List E) (e : E) (hs : a.eval s = v) (hown : w.ownsRow base 31 2 v l.length (flat l)) (ad : Addr) (c : Nat) (hx : a.eval x = .slice (some ad) 1 c) (hnews : ∀ j u, (enc e)[j]? = some u → w.cell? (ad.add j) = some u) (hl : l.length ≤ 2000) (hb : base ≤ w.heap.size)
    (hK : ∀ g cap w', Row w' base g cap (l ++ [e]) → w.grownBy w' v.ownBlock → (v.ownBlock = some g ∨ w.heap.size ≤ g) → wpList Yba.prog ops Q rest (a.put o.dst (.slice (some ⟨g, 0, none⟩) (l.length + 1) cap)) w') :
    wpList Yba.prog ops Q (o :: rest) a w := by
  refine wpList_plain hg fun K hK' => ?_
  obtain ⟨g, cap, w', hrun, r1, r2, r3⟩ := app_run w base v l e ad c o.type hown hnews hl hb
  unfold Oper.wp
  simp [execOp, hop, resolve, invoke, builtin, hs, hx, hrun, Result.andThen]
  exact hK' _ _ (hK g cap w' r1 r2 r3)

/-- The ends that h holds. -/
structure Hs (w : World) (bh base : Nat) (v : Value) (l : List E) (hp : Bool) : Prop where
  hb : Blk w bh 34 [v, .bool hp]
  hr : w.ownsRow base 31 2 v l.length (flat l)
  lo : bh < base
  hi : base ≤ w.heap.size
theorem Hs.row {w : World} {bh base : Nat} {v : Value} {l : List E} {hp : Bool} (h : Hs w bh base v l hp) (hl : 0 < l.length) : ∃ g cap, v = .slice (some ⟨g, 0, none⟩) l.length cap ∧ Row w base g cap l := by
  have hr := h.hr
  rcases hr.2 with ⟨_, h0⟩ | ⟨g, cap, cur, hv, _⟩
  · omega
  · exact ⟨g, cap, hv, by unfold Row; rw [← hv]; exact hr⟩
theorem own_keep {w w' : World} {base : Nat} {v : Value} {l : List E} (h : w.ownsRow base 31 2 v l.length (flat l)) (hk : ∀ g, v.ownBlock = some g → w'.heap[g]? = w.heap[g]?) : w'.ownsRow base 31 2 v l.length (flat l) := by
  refine ⟨h.1, ?_⟩
  rcases h.2 with h2 | ⟨g, cap, cur, hv, hb, hg, hrest⟩
  · exact Or.inl h2
  · exact Or.inr ⟨g, cap, cur, hv, hb, by rw [hk g (by rw [hv]; rfl)]; exact hg, hrest⟩
theorem own_row {w : World} {base g cap : Nat} {l : List E} (h : Row w base g cap l) : w.ownsRow base 31 2 (.slice (some ⟨g, 0, none⟩) l.length cap) l.length (flat l) := h

theorem box_cells (w : World) (e : E) : ∀ j u, (enc e)[j]? = some u → (w.alloc (.cells #[.int .i64 e.1, .int .i64 e.2] 31)).cell? ((⟨w.heap.size, 0, none⟩ : Addr).add j) = some u := by
  intro j u hj
  have h2 := (Blk.made (w := w) (e := 31) #[.int .i64 e.1, .int .i64 e.2]).cell j
  have e1 : ((⟨w.heap.size, 0, none⟩ : Addr).add j) = ⟨w.heap.size, j, none⟩ := by
    simp only [Addr.add, Nat.zero_add]
    split
    · next h => subst h; rfl
    · rfl
  rw [e1, h2]
  exact hj

#print axioms wpList_app
end Go.Proofs.Ybulkcfwe
