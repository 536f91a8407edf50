/-
  Plain lists: rows of fixed width laid one behind the other.
-/
import Derived.Test.YbulkcfweBlk
namespace Go.Proofs.Ybulkcfwe
open Go.RowKit

theorem flat_get {α β : Type} (f : α → List β) (s : Nat) (hf : ∀ x, (f x).length = s) : ∀ (l : List α) (j t : Nat), t < s → (l.flatMap f)[j * s + t]? = (l[j]?).bind fun x => (f x)[t]?
  | [], j, t, _ => by simp
  | a :: l, 0, t, ht => by
    simp only [List.flatMap_cons]
    rw [List.getElem?_append_left (by rw [hf]; omega)]
    simp
  | a :: l, j + 1, t, ht => by
    simp only [List.flatMap_cons]
    rw [List.getElem?_append_right (by rw [hf, Nat.add_mul]; omega), hf, show (j + 1) * s + t - s = j * s + t by rw [Nat.add_mul]; omega, flat_get f s hf l j t ht]
    simp

theorem flat_len {α β : Type} (f : α → List β) (s : Nat) (hf : ∀ x, (f x).length = s) : ∀ (l : List α), (l.flatMap f).length = l.length * s
  | [] => by simp
  | a :: l => by simp only [List.flatMap_cons, List.length_append, hf, List.length_cons, flat_len f s hf l, Nat.add_mul]; omega

theorem flat_set {α β : Type} (f : α → List β) (s : Nat) (hf : ∀ x, (f x).length = s) (y : α) (u : β) (t : Nat) (ht : t < s) : ∀ (l : List α) (j : Nat), (∀ x, l[j]? = some x → f y = (f x).set t u) → j < l.length → (l.flatMap f).set (j * s + t) u = (l.set j y).flatMap f
  | [], j, _, hj => by simp at hj
  | a :: l, 0, h, _ => by
    simp only [List.flatMap_cons, List.set_cons_zero]
    rw [List.set_append_left _ _ (by rw [hf]; omega), h a (by simp)]
    simp
  | a :: l, j + 1, h, hj => by
    simp only [List.flatMap_cons, List.set_cons_succ]
    rw [List.set_append_right _ _ (by rw [hf, Nat.add_mul]; omega), hf, show (j + 1) * s + t - s = j * s + t by rw [Nat.add_mul]; omega]
    rw [flat_set f s hf y u t ht l j (fun x hx => h x (by simpa using hx)) (by simpa using hj)]

/-- The cells of n zero elements. -/
theorem made_flat (zs : Array Value) (n : Nat) (hz : 0 < zs.size) : (madeCells zs (n * zs.size)).toList = (List.replicate n ()).flatMap fun _ => zs.toList := by
  apply List.ext_getElem?
  intro i
  have hi : i = (i / zs.size) * zs.size + i % zs.size := by rw [Nat.mul_comm]; exact (Nat.div_add_mod i zs.size).symm
  have hm : i % zs.size < zs.size := Nat.mod_lt _ hz
  have hr : ((List.replicate n ()).flatMap fun _ => zs.toList)[i]? = if i < n * zs.size then zs[i % zs.size]? else none := by
    conv => lhs; rw [hi]
    rw [flat_get (fun _ : Unit => zs.toList) zs.size (fun _ => by simp) _ _ _ hm]
    by_cases h : i / zs.size < n
    · have : i < n * zs.size := by
        have := (Nat.div_lt_iff_lt_mul hz).1 h; exact this
      simp [h, this]
    · have : ¬ i < n * zs.size := fun h' => h ((Nat.div_lt_iff_lt_mul hz).2 h')
      simp [h, this]
  rw [hr]
  by_cases h : i < n * zs.size
  · simp [madeCells, h, Array.getElem?_eq_getElem hm, getElem!_pos zs (i % zs.size) hm]
  · simp [madeCells, h]

theorem flat_rep {α β : Type} (f : α → List β) (x : α) (n : Nat) : ((List.replicate n ()).flatMap fun _ => f x) = (List.replicate n x).flatMap f := by
  induction n with
  | zero => rfl
  | succ n ih => simp only [List.replicate_succ, List.flatMap_cons, ih]
theorem flat_rep_one {α β : Type} (g : α → β) (x : α) (n : Nat) : ((List.replicate n ()).flatMap fun _ => [g x]) = (List.replicate n x).map g := by
  induction n with
  | zero => rfl
  | succ n ih => simp only [List.replicate_succ, List.flatMap_cons, ih, List.map_cons, List.cons_append, List.nil_append]

/-- 'make([]T, n)': the very world. -/
theorem run_make_rows {P : Program} {t e : TypeId} {z : Value} {size bytes : Nat} (ht : P.underlying t = some (.slice e)) (hinfo : (P.info? e).map (fun i => (i.zero, i.size, i.bytes)) = some (some z, size, bytes))
    (zs : List Value) (hz : z.cells = zs.toArray) (hs : zs.length = size) (h0 : 0 < size) (hb : bytes ≤ 4096) (n : Nat) (hn : n ≤ 1048576) (w : World) :
    (Instr.makeSlice t (.int .i64 (n : Int)) (.int .i64 (n : Int))).run P w = .ok (.slice (some ⟨w.heap.size, 0, none⟩) n n) (w.alloc (.cells ((List.replicate n ()).flatMap fun _ => zs).toArray e)) := by
  obtain ⟨i, hi, h1, h2, h3⟩ := info_parts hinfo
  have hbb : (i.bytes : Int) * (n : Int) ≤ 281474976710656 := by
    rw [h3]
    have h4 : bytes * n ≤ 4096 * 1048576 := Nat.mul_le_mul hb hn
    have h5 : ((bytes * n : Nat) : Int) ≤ 4096 * 1048576 := by omega
    rw [Int.natCast_mul] at h5
    omega
  have hr := run_make (P := P) w t e i z ht hi h1 .i64 .i64 (n : Int) (n : Int) (by omega) (by omega) hbb (by omega)
  rw [hr, h2, Int.toNat_natCast, hz]
  subst hs
  have e1 : madeCells zs.toArray (n * zs.length) = ((List.replicate n ()).flatMap fun _ => zs).toArray := by
    apply Array.ext'
    have h6 := made_flat zs.toArray n (by simpa using h0)
    simpa using h6
  rw [e1]

#print axioms run_make_rows
end Go.Proofs.Ybulkcfwe
