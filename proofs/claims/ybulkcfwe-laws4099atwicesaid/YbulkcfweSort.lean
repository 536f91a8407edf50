/-
  slices.SortFunc at ends, by the shelf's contract; the two comparisons.
-/
import Derived.Test.YbulkcfweIns
import Derived.Shelf.SlSortCmp.WholeK
import Derived.Shelf.Lay
import Derived.Ground.SlsfProg
namespace Go.Proofs.Ybulkcfwe
open Go.Shelf Go.RowKit Go.Lib Go.Sort

shelf_lay_g SlLaysF0.n6 Slsf 6 at Yba 12 as Yba.sortEnd

theorem isNaN_any (x : Int) (W : World) : Calls Yba.prog 34 #[.int .i64 x] W fun e w' => e = .returned (.bool false) ∧ w' = W := by
  go_enter Yba.func34, Yba.ntmps34
  go_wp2
  go_ret
  exact ⟨by simp, rfl⟩

theorem compare_any (x y : Int) (W : World) : Calls Yba.prog 19 #[.int .i64 x, .int .i64 y] W fun e w' => e = .returned (.int .i64 (Lib.compareInt x y)) ∧ w' = W := by
  unfold Lib.compareInt
  by_cases h1 : x < y
  · rw [if_pos h1]
    go_enter Yba.func19, Yba.ntmps19
    go_wp2_with (go_at_call 34; refine (isNaN_any _ _).mono ?_; rintro e w' ⟨rfl, rfl⟩)
    go_ret
    exact ⟨rfl, rfl⟩
  · rw [if_neg h1]
    by_cases h2 : y < x
    · rw [if_pos h2]
      go_enter Yba.func19, Yba.ntmps19
      go_wp2_with (go_at_call 34; refine (isNaN_any _ _).mono ?_; rintro e w' ⟨rfl, rfl⟩)
      go_ret
      exact ⟨rfl, rfl⟩
    · rw [if_neg h2]
      go_enter Yba.func19, Yba.ntmps19
      go_wp2_with (go_at_call 34; refine (isNaN_any _ _).mono ?_; rintro e w' ⟨rfl, rfl⟩)
      go_ret
      exact ⟨rfl, rfl⟩

/-- The closure of orderFew. -/
def cfD (x y : E) : Int := Lib.compareInt y.1 x.1
/-- zzs4099acmp. -/
def cfL (x y : E) : Int := if Lib.compareInt x.1 y.1 = 0 then Lib.compareInt x.2 y.2 else Lib.compareInt x.1 y.1

set_option maxHeartbeats 1000000 in
theorem closure35 (x y : E) (W : World) : Calls Yba.prog 35 #[.agg (enc x).toArray, .agg (enc y).toArray] W fun e w' => e = .returned (.int .i64 (cfD x y)) ∧ ∃ q os', w' = grow (W.drewN q) os' := by
  have hcon := fun W' => compare_any y.1 x.1 W'
  unfold cfD
  generalize Lib.compareInt y.1 x.1 = r at hcon ⊢
  obtain ⟨x1, x2⟩ := x
  obtain ⟨y1, y2⟩ := y
  show Calls Yba.prog 35 #[.agg #[.int .i64 x1, .int .i64 x2], .agg #[.int .i64 y1, .int .i64 y2]] W _
  go_enter Yba.func35, Yba.ntmps35
  go_wp2_with (go_at_call 19; refine (hcon _).mono ?_; rintro e w' ⟨rfl, rfl⟩)
  go_ret
  exact ⟨rfl, 0, _, by rw [alloc_eq_grow, alloc_eq_grow, grow_grow]; rfl⟩

set_option maxHeartbeats 1000000 in
theorem cmp13 (x y : E) (W : World) : Calls Yba.prog 13 #[.agg (enc x).toArray, .agg (enc y).toArray] W fun e w' => e = .returned (.int .i64 (cfL x y)) ∧ ∃ q os', w' = grow (W.drewN q) os' := by
  have hcon := fun W' => compare_any x.1 y.1 W'
  have hcon2 := fun W' => compare_any x.2 y.2 W'
  unfold cfL
  generalize Lib.compareInt x.1 y.1 = r at hcon ⊢
  generalize Lib.compareInt x.2 y.2 = s at hcon2 ⊢
  obtain ⟨x1, x2⟩ := x
  obtain ⟨y1, y2⟩ := y
  show Calls Yba.prog 13 #[.agg #[.int .i64 x1, .int .i64 x2], .agg #[.int .i64 y1, .int .i64 y2]] W _
  by_cases hr : r = 0
  · rw [if_pos hr]
    subst hr
    go_enter Yba.func13, Yba.ntmps13
    go_wp2_with (first | (go_at_call_of 19 (Value.int .i64 x1); refine (hcon _).mono ?_; rintro e w' ⟨rfl, rfl⟩) | (go_at_call_of 19 (Value.int .i64 x2); refine (hcon2 _).mono ?_; rintro e w' ⟨rfl, rfl⟩))
    go_ret
    exact ⟨rfl, 0, _, by rw [alloc_eq_grow, alloc_eq_grow, grow_grow]; rfl⟩
  · rw [if_neg hr]
    have hrd : (r == 0) = false := by simpa using hr
    go_enter Yba.func13, Yba.ntmps13
    go_wp2_with (go_at_call 19; refine (hcon _).mono ?_; rintro e w' ⟨rfl, rfl⟩)
    go_ret
    exact ⟨rfl, 0, _, by rw [alloc_eq_grow, alloc_eq_grow, grow_grow]; rfl⟩

theorem ltD (x y : E) : ltOf cfD x y = decide (y.1 < x.1) := by
  unfold ltOf cfD Lib.compareInt
  by_cases h1 : y.1 < x.1
  · simp [h1]
  · by_cases h2 : x.1 < y.1 <;> simp [h1, h2]
theorem swoD : SWO (ltOf cfD) where
  irrefl x := by rw [ltD]; simp
  trans x y z h1 h2 := by rw [ltD] at *; simp at *; omega
  ntrans x y z h1 h2 := by rw [ltD] at *; simp at *; omega
theorem ltL (x y : E) : ltOf cfL x y = decide (x.1 < y.1 ∨ (x.1 = y.1 ∧ x.2 < y.2)) := by
  unfold ltOf cfL Lib.compareInt
  by_cases h1 : x.1 < y.1
  · simp [h1]
  · by_cases h2 : y.1 < x.1
    · have h3 : ¬ x.1 = y.1 := by omega
      simp [h1, h2, h3]
    · have h3 : x.1 = y.1 := by omega
      by_cases h4 : x.2 < y.2
      · simp [h3, h4]
      · by_cases h5 : y.2 < x.2 <;> simp [h3, h4, h5]
theorem swoL : SWO (ltOf cfL) where
  irrefl x := by rw [ltL]; simp
  trans x y z h1 h2 := by rw [ltL] at *; simp at *; omega
  ntrans x y z h1 h2 := by rw [ltL] at *; simp at *; omega

/-! The sort's world and a row. -/
theorem flatK_eq (l : List E) : (flatK enc 2 l.toArray).toList = flat l := by
  apply List.ext_getElem?
  intro t
  by_cases ht : t < l.length * 2
  · have h1 : (flatK enc 2 l.toArray)[t]! = (enc l.toArray[t / 2]!)[t % 2]! := get_flatK enc 2 l.toArray t (by simpa using ht)
    have hj : t / 2 < l.length := by omega
    have h2 := flat_get enc 2 (fun _ => rfl) l (t / 2) (t % 2) (by omega)
    rw [show t / 2 * 2 + t % 2 = t by omega] at h2
    unfold flat
    rw [h2, List.getElem?_eq_getElem hj, Array.getElem?_toList, Array.getElem?_eq_getElem (by simpa using ht)]
    rw [getElem!_pos _ _ (by simpa using ht)] at h1
    rw [h1]
    have h3 : l.toArray[t / 2]! = l[t / 2] := by rw [getElem!_pos _ _ (by simpa using hj)]; simp
    rw [h3]
    have h4 : t % 2 = 0 ∨ t % 2 = 1 := by omega
    rcases h4 with h4 | h4 <;> rw [h4] <;> rfl
  · rw [List.getElem?_eq_none (by simp; omega), List.getElem?_eq_none (by rw [flat_length]; omega)]

theorem holds_row {w : World} {base g cap : Nat} {l : List E} (h : Row w base g cap l) : HoldsK enc 2 w g 0 l.toArray := by
  intro j hj
  have hj2 : j < l.length * 2 := by simpa using hj
  refine ⟨?_, by rw [Nat.zero_add]; exact h.free j⟩
  rw [Nat.zero_add, World.ownsRow.cellAt h j (by omega), ← flatK_eq, Array.getElem?_toList, Array.getElem?_eq_getElem hj, getElem!_pos (flatK enc 2 l.toArray) j hj]
  rfl

theorem row_sorted {w : World} {base g cap n : Nat} {l l' : List E} {os : Array Obj} (h : Row w base g cap l) (hl : l'.length = l.length) : Row (sortWorldK enc 2 w g 0 n l'.toArray os) base g cap l' ∧ Kept w.heap.size (fun x => x = g) w (sortWorldK enc 2 w g 0 n l'.toArray os) := by
  obtain ⟨hlen, h2⟩ := h
  rcases h2 with ⟨h2, _⟩ | ⟨g', cap', cur, hv, hb, hg, hn, hm, hcs, ht⟩
  · simp at h2
  simp only [Value.slice.injEq, Option.some.injEq, Addr.mk.injEq, and_true, true_and] at hv
  obtain ⟨rfl, rfl⟩ := hv
  have hgl : g < w.heap.size := (Array.getElem?_eq_some_iff.1 hg).1
  have hheap : (sortWorldK enc 2 w g 0 n l'.toArray os).heap[g]? = some (.cells (putCells id 0 (flatK enc 2 l'.toArray) cur) 31 (0, 0)) := by
    unfold sortWorldK putRowK
    rw [heap_grow_old _ _ (by simpa using hgl)]
    simp [putRow, mapBlock, Sort.ahead, Array.getElem?_modify, hg, onCells]
  constructor
  · refine ⟨by rw [flat_length], Or.inr ⟨g, cap, _, rfl, hb, hheap, by omega, hm, by simp [putCells, hcs], ?_⟩⟩
    apply List.ext_getElem?
    intro j
    by_cases hj : j < l'.length * 2
    · have hjc : j < cur.size := by rw [hcs]; omega
      rw [List.getElem?_take_of_lt hj, Array.getElem?_toList, ← flatK_eq, Array.getElem?_toList]
      have hjs : j < (flatK enc 2 l'.toArray).size := by simpa using hj
      rw [Array.getElem?_eq_getElem hjs]
      simp only [putCells, Array.getElem?_mapIdx, Array.getElem?_eq_getElem hjc, Option.map_some, Nat.zero_le, Nat.zero_add, true_and, Nat.sub_zero]
      rw [if_pos hjs, getElem!_pos (flatK enc 2 l'.toArray) j hjs]
      rfl
    · rw [List.getElem?_take_eq_none (by omega), List.getElem?_eq_none (by rw [flat_length]; omega)]
  · refine ⟨rfl, rfl, rfl, by simp [sortWorldK, putRowK], fun k hk hne => ?_⟩
    unfold sortWorldK putRowK
    rw [heap_grow_old _ _ (by simpa using hk)]
    have : g ≠ k := fun e => hne e.symm
    simp [putRow, mapBlock, Sort.ahead, Array.getElem?_modify, this]

theorem sort_any (fn : Nat) (cf : E → E → Int) (hO : SWO (ltOf cf)) (eg : ∀ args w, (callFunc fn args).run Yba.prog w = .ok (.enter fn args) w)
    (hcmp : ∀ x y W, Calls Yba.prog fn #[.agg (enc x).toArray, .agg (enc y).toArray] W fun e w' => e = .returned (.int .i64 (cf x y)) ∧ ∃ q os', w' = grow (W.drewN q) os')
    (base g cap : Nat) (l : List E) (w : World) (hr : Row w base g cap l) (hl : l.length ≤ 2000) :
    Calls Yba.prog 12 #[.slice (some ⟨g, 0, none⟩) l.length cap, .func (.func fn) #[] #[]] w fun e w' => e = .returned (.tuple #[]) ∧ ∃ l' : List E, l'.length = l.length ∧ l'.Perm l ∧ SortedIn (ltOf cf) 0 l'.length l'.toArray ∧ Row w' base g cap l' ∧ Kept w.heap.size (fun x => x = g) w w' := by
  have hcl : CmpLays Yba.prog fn #[] enc 2 cf g 0 l.toArray.size w := fun _ _ _ _ x y => hcmp x y _
  have hcon := AnyQ.slices_SortFunc Yba.sortEnd 2 Yba.isAgg31 Yba.sizeOf31 enc (fun _ => rfl) (fun x v hv => by simp [enc] at hv; rcases hv with rfl | rfl <;> rfl) cf hO fn #[] g 0 cap l.toArray w eg hcl (holds_row hr) hr.lt.2 (by simp; omega)
  change Calls Yba.prog 12 #[.slice (some ⟨g, 0, none⟩) l.length cap, .func (.func fn) #[] #[]] w _ at hcon
  refine hcon.mono ?_
  rintro e w' ⟨rfl, d', n, os, hp, hs, rfl⟩
  have hsz : d'.size = l.length := by have := hp.1; simpa using this
  obtain ⟨l', rfl⟩ : ∃ l' : List E, d' = l'.toArray := ⟨d'.toList, by simp⟩
  have hl' : l'.length = l.length := by simpa using hsz
  obtain ⟨h1, h2⟩ := row_sorted (n := n) (os := os) hr hl'
  refine ⟨rfl, l', hl', ?_, ?_, h1, h2⟩
  · have := hp.2.2
    have e1 : (l.toArray.extract 0 l.toArray.size).toList = l := by simp
    have e2 : (l'.toArray.extract 0 l.toArray.size).toList = l' := by simp [← hl']
    rw [e1, e2] at this
    exact this
  · rw [hl']; simpa using hs

/-- By the latest first: in order. -/
theorem sortedD {l : List E} (h : SortedIn (ltOf cfD) 0 l.length l.toArray) : Desc l := by
  intro i hi
  have := h i (i + 1) (Nat.zero_le _) (by omega) hi
  rw [ltD] at this
  rw [getElem!_pos l.toArray (i + 1) (by simpa using hi), getElem!_pos l.toArray i (by simp; omega)] at this
  simp at this
  rw [at_get l (i + 1) hi, at_get l i (by omega)]
  exact this
/-- Two sorted rows of the same ends are one. -/
theorem sortedL {l m : List E} (h1 : SortedIn (ltOf cfL) 0 l.length l.toArray) (h2 : SortedIn (ltOf cfL) 0 m.length m.toArray) (hp : l.Perm m) : l = m := by
  have pw : ∀ {k : List E}, SortedIn (ltOf cfL) 0 k.length k.toArray → List.Pairwise (fun x y : E => ltOf cfL y x = false) k := by
    intro k hk
    rw [List.pairwise_iff_getElem]
    intro i j hi hj hij
    have := hk i j (Nat.zero_le _) hij hj
    rw [getElem!_pos _ _ (by simpa using hj), getElem!_pos _ _ (by simpa using hi)] at this
    simpa using this
  refine List.Perm.eq_of_pairwise (fun a b _ _ hab hba => ?_) (pw h1) (pw h2) hp
  rw [ltL] at hab hba
  simp at hab hba
  apply Prod.ext <;> omega

#print axioms sort_any
#print axioms sortedL
#print axioms cmp13
end Go.Proofs.Ybulkcfwe
