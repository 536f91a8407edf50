/-
  Plain lists for the second law: a row that is filled from its head on; a copy of a whole row.
-/
import Derived.Test.YbulkcfxgInv
namespace Go.Proofs.Ybulkcfxg
open Go.RowKit

/-- Of n places the first k hold f, the others g. -/
def mix {α : Type} (f g : Nat → α) (n k : Nat) : List α := (List.range n).map fun j => if j < k then f j else g j
theorem mix_len {α : Type} (f g : Nat → α) (n k : Nat) : (mix f g n k).length = n := by simp [mix]
theorem mix_get {α : Type} (f g : Nat → α) (n k j : Nat) (hj : j < n) : (mix f g n k)[j]? = some (if j < k then f j else g j) := by simp [mix, hj]
theorem mix_set {α : Type} (f g : Nat → α) (n k : Nat) (y : α) (hy : y = f k) : (mix f g n k).set k y = mix f g n (k + 1) := by
  subst hy
  apply List.ext_getElem?
  intro j
  by_cases hj : j < n
  · by_cases e : k = j
    · subst e
      rw [List.getElem?_set_self (by rw [mix_len]; exact hj), mix_get _ _ _ _ _ hj, if_pos (by omega)]
    · rw [List.getElem?_set_ne e, mix_get _ _ _ _ _ hj, mix_get _ _ _ _ _ hj]
      by_cases h : j < k
      · rw [if_pos h, if_pos (by omega)]
      · rw [if_neg h, if_neg (by omega)]
  · rw [List.getElem?_eq_none (by rw [List.length_set, mix_len]; omega), List.getElem?_eq_none (by rw [mix_len]; omega)]
theorem mix_zero {α : Type} (f : Nat → α) (c : α) (n : Nat) : mix f (fun _ => c) n 0 = List.replicate n c := by
  apply List.ext_getElem?
  intro j
  by_cases hj : j < n
  · rw [mix_get _ _ _ _ _ hj]; simp [hj]
  · rw [List.getElem?_eq_none (by rw [mix_len]; omega)]; simp [hj]

/-- An end with lastSent a and seq b. -/
def out2 (p : Nat × Nat) : List Value := [.int .u64 (p.1 : Int), .int .u64 (p.2 : Int), .int .u32 0, .int .u8 0, .int .u8 0, .int .u8 0]
theorem out2_len (p : Nat × Nat) : (out2 p).length = 6 := rfl
def outs2 (ps : List (Nat × Nat)) : List Value := ps.flatMap out2
theorem outs2_len (ps : List (Nat × Nat)) : (outs2 ps).length = ps.length * 6 := flat_len out2 6 out2_len ps
theorem outs2_get (ps : List (Nat × Nat)) (j t : Nat) (p : Nat × Nat) (hp : ps[j]? = some p) (ht : t < 6) : (outs2 ps)[j * 6 + t]? = (out2 p)[t]? := by
  unfold outs2
  rw [flat_get out2 6 out2_len ps j t ht, hp]; rfl
theorem outs2_set (ps : List (Nat × Nat)) (j a b : Nat) (hj : j < ps.length) : ((outs2 ps).set (j * 6) (.int .u64 (a : Int))).set (j * 6 + 1) (.int .u64 (b : Int)) = outs2 (ps.set j (a, b)) := by
  have hx : ps[j]? = some ps[j] := List.getElem?_eq_getElem hj
  have h1 := flat_set out2 6 out2_len (a, (ps[j]).2) (.int .u64 (a : Int)) 0 (by omega) ps j (fun x e => by rw [hx] at e; cases e; rfl) hj
  have h2 := flat_set out2 6 out2_len (a, b) (.int .u64 (b : Int)) 1 (by omega) (ps.set j (a, (ps[j]).2)) j (fun x e => by rw [List.getElem?_set_self hj] at e; cases e; rfl) (by simpa using hj)
  unfold outs2
  rw [Nat.add_zero] at h1
  rw [h1, h2, List.set_set]

theorem setRow_new (w : World) (old cs : Array Value) (e : TypeId) : (w.alloc (.cells old e)).setRow w.heap.size cs = w.alloc (.cells cs e) := by
  have h : ∀ (f : Obj → Obj), f (.cells old e) = .cells cs e → (w.heap.push (.cells old e)).modify w.heap.size f = w.heap.push (.cells cs e) := by
    intro f hf
    apply Array.ext
    · simp
    · intro k h1 h2
      rw [Array.getElem_modify]
      by_cases hk : w.heap.size = k
      · subst hk
        rw [if_pos rfl, Array.getElem_push_eq, Array.getElem_push_eq, hf]
      · have hk2 : k < w.heap.size := by simp at h2; omega
        rw [if_neg hk, Array.getElem_push_lt hk2, Array.getElem_push_lt hk2]
  unfold World.setRow
  show ({ w with heap := _ } : World) = { w with heap := _ }
  congr 1
  exact h _ rfl

/-- 'copy(dst, src)', elements of any width, the whole of dst, a new row. -/
theorem run_copy_whole {P : Program} (w : World) (t ty e : TypeId) (size : Nat) (hu : P.underlying t = some (.slice e)) (hs : (P.info? e).map (·.size) = some size) (n : Nat) (old cs : List Value) (bp : Nat)
    (hol : old.length = n * size) (hcl : cs.length = n * size) (hsrc : Blk w bp e cs) (h1 : ∀ v ∈ cs, v.oneCell' = true) :
    (Builtin.copy_ #[t, t] ty #[.slice (some ⟨w.heap.size, 0, none⟩) n n, .slice (some ⟨bp, 0, none⟩) n n]).run P (w.alloc (.cells old.toArray e)) = .ok (goInt n) (w.alloc (.cells cs.toArray e)) := by
  have hb := hsrc.alloc (.cells old.toArray e)
  have hl := run_loadCells_list (P := P) (w.alloc (.cells old.toArray e)) ⟨bp, 0, none⟩ cs (fun j v hj => by
    rw [show ((⟨bp, 0, none⟩ : Addr).add j) = ⟨bp, j, none⟩ from by unfold Addr.add; split <;> simp_all, hb.cell j]; exact hj)
  have hg : (w.alloc (.cells old.toArray e)).heap[w.heap.size]? = some (.cells old.toArray e (0, 0)) := heap_alloc_new w _
  have hst := run_storeCells_at P w.heap.size 0 e cs 0 old.toArray (w.alloc (.cells old.toArray e)) hg (by simp; omega) h1
  have e2 : (w.alloc (.cells old.toArray e)).setRow w.heap.size cs.toArray = w.alloc (.cells cs.toArray e) := by
    exact setRow_new w old.toArray cs.toArray e
  cases hq : P.info? e with
  | none => simp [hq] at hs
  | some i =>
    have hi : i.size = size := by simpa [hq] using hs
    have hd : old.drop cs.length = [] := List.drop_eq_nil_of_le (by omega)
    simp [hd] at hst
    rw [e2] at hst
    simp [Builtin.copy_, run_underlying hu, Builtin.lenOf, Builtin.firstCells, sizeOf, typeInfo, hq, hi, ← hcl, hl, hst]

theorem peers_one (r : List Nat) : ∀ v ∈ peersOf r, v.oneCell' = true := by
  intro v hv
  simp only [peersOf, List.mem_flatMap] at hv
  obtain ⟨x, _, hx⟩ := hv
  simp [peer6] at hx
  rcases hx with rfl | rfl | rfl | rfl <;> rfl

#print axioms run_copy_whole
end Go.Proofs.Ybulkcfxg
