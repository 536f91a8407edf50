/-
  What the law's own memory holds, as plain lists.
-/
import Derived.Test.YbulkcfxgFmtSmall
namespace Go.Proofs.YbulkcfxgFmt
open Go.RowKit

/-- Of n places the first k hold f, the others g. -/
def mix {α : Type} (f g : Nat → α) (n k : Nat) : List α := (List.range n).map fun j => if j < k then f j else g j
theorem mix_len {α : Type} (f g : Nat → α) (n k : Nat) : (mix f g n k).length = n := by simp [mix]
theorem mix_get {α : Type} (f g : Nat → α) (n k j : Nat) (hj : j < n) : (mix f g n k)[j]? = some (if j < k then f j else g j) := by simp [mix, hj]
theorem mix_set {α : Type} (f g : Nat → α) (n k : Nat) (y : α) (hy : y = f k) : (mix f g n k).set k y = mix f g n (k + 1) := by
  subst hy
  apply List.ext_getElem?
  intro j
  by_cases hj : j < n
  · by_cases e : k = j
    · subst e
      rw [List.getElem?_set_self (by rw [mix_len]; exact hj), mix_get _ _ _ _ _ hj, if_pos (by omega)]
    · rw [List.getElem?_set_ne e, mix_get _ _ _ _ _ hj, mix_get _ _ _ _ _ hj]
      by_cases h : j < k
      · rw [if_pos h, if_pos (by omega)]
      · rw [if_neg h, if_neg (by omega)]
  · rw [List.getElem?_eq_none (by rw [List.length_set, mix_len]; omega), List.getElem?_eq_none (by rw [mix_len]; omega)]
theorem mix_zero {α : Type} (f : Nat → α) (c : α) (n : Nat) : mix f (fun _ => c) n 0 = List.replicate n c := by
  apply List.ext_getElem?
  intro j
  by_cases hj : j < n
  · rw [mix_get _ _ _ _ _ hj]; simp [hj]
  · rw [List.getElem?_eq_none (by rw [mix_len]; omega)]; simp [hj]

/-- The pointer to the process made of entry j; the processes' block numbers begin at B. -/
def pp (B j : Nat) : Value := .pointer (some ⟨B + j, 0, none⟩)
/-- The map behind k entries. -/
def procs (nm : Nat → ByteArray) (B : Nat) : Nat → List (ByteArray × Value)
  | 0 => []
  | k + 1 => mput (procs nm B k) (nm k) (pp B k)
theorem procs_get (nm : Nat → ByteArray) (B : Nat) (s : ByteArray) : ∀ k, (lastTo nm s k = -1 ∧ (∀ j, j < k → nm j ≠ s) ∧ mget (procs nm B k) s = none) ∨ ∃ i : Nat, i < k ∧ lastTo nm s k = (i : Int) ∧ nm i = s ∧ mget (procs nm B k) s = some (pp B i)
  | 0 => Or.inl ⟨rfl, fun j hj => by omega, rfl⟩
  | k + 1 => by
    by_cases h : nm k = s
    · exact Or.inr ⟨k, by omega, by rw [lastTo, if_pos h], h, by rw [procs, mget_mput, if_pos h.symm]⟩
    · have hne : ¬ s = nm k := fun e => h e.symm
      rcases procs_get nm B s k with ⟨h1, h2, h3⟩ | ⟨i, h1, h2, h3, h4⟩
      · exact Or.inl ⟨by rw [lastTo, if_neg h]; exact h1, fun j hj => by
          by_cases e : j = k
          · rw [e]; exact h
          · exact h2 j (by omega), by rw [procs, mget_mput, if_neg hne]; exact h3⟩
      · exact Or.inr ⟨i, by omega, by rw [lastTo, if_neg h]; exact h2, h3, by rw [procs, mget_mput, if_neg hne]; exact h4⟩

theorem procs_len (nm : Nat → ByteArray) (B : Nat) : ∀ k, (procs nm B k).length ≤ k
  | 0 => Nat.le_refl _
  | k + 1 => by
    rw [procs, mput_len]
    have := procs_len nm B k
    split <;> omega

/-- The five cells of a process. -/
def proc5 (s : ByteArray) (named left : Int) : List Value := [.string s, .int .i64 named, .int .i64 left, .pointer none, .map none]

/-- The law's memory behind k entries: the map of sent at B, the map of processes at B + 1, the reader at B + 2, ptrs at B + 3, the processes above. -/
structure St (w0 w : World) (B len k : Nat) (nm : Nat → ByteArray) (nd lf : Nat → Int) : Prop where
  hT : Blk w (B + 1 + 1) 27 [.map (some B), .map (some (B + 1))]
  hM : MapB w (B + 1) (procs nm (B + 1 + 1 + 1 + 1) k)
  hQ : Blk w (B + 1 + 1 + 1) 29 (mix (pp (B + 1 + 1 + 1 + 1)) (fun _ => .pointer none) len k)
  hS : ∀ j, j < k → Blk w (B + 1 + 1 + 1 + 1 + j) 34 (proc5 (nm j) (nd j) (lf j))
  hz : w.heap.size = B + 1 + 1 + 1 + 1 + k
  hb : Below B w0 w

theorem st_start (w : World) (len : Nat) (nm : Nat → ByteArray) (nd lf : Nat → Int) :
    St w ((((w.alloc (.map #[] 0)).alloc (.map #[] 0)).alloc (.cells #[.map (some w.heap.size), .map (some (w.heap.size + 1))] 27)).alloc (.cells (List.replicate len (.pointer none)).toArray 29)) w.heap.size len 0 nm nd lf := by
  refine ⟨?_, ?_, ?_, fun j hj => by omega, by simp, ?_⟩
  · have := (Blk.made (w := (w.alloc (.map #[] 0)).alloc (.map #[] 0)) (e := 27) #[.map (some w.heap.size), .map (some (w.heap.size + 1))]).alloc (.cells (List.replicate len (.pointer none)).toArray 29)
    simp only [World.size_alloc] at this
    exact this
  · refine ⟨#[], 0, ?_, rfl⟩
    have h0 := Below.heap_alloc ((w.alloc (.map #[] 0)).alloc (.map #[] 0)) (.cells #[.map (some w.heap.size), .map (some (w.heap.size + 1))] 27) (w.heap.size + 1) (by simp)
    have h1 := Below.heap_alloc (((w.alloc (.map #[] 0)).alloc (.map #[] 0)).alloc (.cells #[.map (some w.heap.size), .map (some (w.heap.size + 1))] 27)) (.cells (List.replicate len (.pointer none)).toArray 29) (w.heap.size + 1) (by simp)
    rw [h1, h0]
    have h2 := heap_alloc_new (w.alloc (.map #[] 0)) (.map #[] 0)
    simp only [World.size_alloc] at h2
    exact h2
  · rw [mix_zero]
    have := Blk.made (w := ((w.alloc (.map #[] 0)).alloc (.map #[] 0)).alloc (.cells #[.map (some w.heap.size), .map (some (w.heap.size + 1))] 27)) (e := 29) (List.replicate len (.pointer none)).toArray
    simp only [World.size_alloc] at this
    exact this
  · exact ((((Below.refl _ _).alloc (Nat.le_refl _) _).alloc (by simp) _).alloc (by simp; omega) _).alloc (by simp; omega) _

/-- One entry more. -/
theorem st_step {w0 w X : World} {B len k : Nat} {nm : Nat → ByteArray} {nd lf : Nat → Int} (h : St w0 w B len k nm nd lf) (hk : k < len)
    (hm : MapB X (B + 1) (mput (procs nm (B + 1 + 1 + 1 + 1) k) (nm k) (.pointer (some ⟨w.heap.size, 0, none⟩))))
    (hs : Stored (B + 1) ((w.setCell ⟨B + 1 + 1 + 1, k, none⟩ (.pointer (some ⟨w.heap.size, 0, none⟩))).alloc (.cells #[.string (nm k), .int .i64 (nd k), .int .i64 (lf k), .pointer none, .map none] 34)) X) :
    St w0 X B len (k + 1) nm nd lf := by
  have hz := h.hz
  have hpp : Value.pointer (some ⟨w.heap.size, 0, none⟩) = pp (B + 1 + 1 + 1 + 1) k := by rw [hz]; rfl
  have hsize : (w.setCell ⟨B + 1 + 1 + 1, k, none⟩ (.pointer (some ⟨w.heap.size, 0, none⟩))).heap.size = w.heap.size := by simp [World.setCell]
  have keep : ∀ b e xs, b ≠ B + 1 → b ≠ B + 1 + 1 + 1 → Blk w b e xs → Blk X b e xs := by
    intro b e xs h1 h2 hb
    have hb2 := (hb.other (a := ⟨B + 1 + 1 + 1, k, none⟩) h2 (.pointer (some ⟨w.heap.size, 0, none⟩))).alloc (.cells #[.string (nm k), .int .i64 (nd k), .int .i64 (lf k), .pointer none, .map none] 34)
    exact hb2.keep (hs.block b h1)
  refine ⟨keep _ _ _ (by omega) (by omega) h.hT, ?_, ?_, ?_, ?_, ?_⟩
  · rw [procs, ← hpp]; exact hm
  · have h1 := ((h.hQ.set k (.pointer (some ⟨w.heap.size, 0, none⟩))).alloc (.cells #[.string (nm k), .int .i64 (nd k), .int .i64 (lf k), .pointer none, .map none] 34)).keep (hs.block (B + 1 + 1 + 1) (by omega))
    rw [mix_set _ _ _ _ _ hpp] at h1
    exact h1
  · intro j hj
    by_cases e : j = k
    · subst e
      have h1 := Blk.made (w := w.setCell ⟨B + 1 + 1 + 1, j, none⟩ (.pointer (some ⟨w.heap.size, 0, none⟩))) (e := 34) #[.string (nm j), .int .i64 (nd j), .int .i64 (lf j), .pointer none, .map none]
      rw [hsize, hz] at h1
      have h2 := h1.keep (hz ▸ hs.block (B + 1 + 1 + 1 + 1 + j) (by omega))
      exact h2
    · exact keep _ _ _ (by omega) (by omega) (h.hS j (by omega))
  · rw [hs.size, World.size_alloc, hsize, hz]; omega
  · have b1 : Below B w0 ((w.setCell ⟨B + 1 + 1 + 1, k, none⟩ (.pointer (some ⟨w.heap.size, 0, none⟩))).alloc (.cells #[.string (nm k), .int .i64 (nd k), .int .i64 (lf k), .pointer none, .map none] 34)) :=
      (h.hb.setCell (p := ⟨B + 1 + 1 + 1, k, none⟩) (by show B ≤ B + 1 + 1 + 1; omega) _).alloc (by rw [hsize, hz]; omega) _
    exact ⟨hs.os.trans b1.os, hs.tape.trans b1.tape, hs.output.trans b1.output, by rw [hs.size]; exact b1.size, fun i hi => (hs.block i (by omega)).trans (b1.block i hi)⟩

#print axioms st_step
end Go.Proofs.YbulkcfxgFmt
