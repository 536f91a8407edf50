/-
  What the law's walk leans on: the makes, the links, the spans.
-/
import Derived.Test.YbulkcgeuMem
namespace Go.Proofs.Ybulkcgeu
open Go.RowKit

theorem info3 : (Yba.prog.info? 3).map (fun i => (i.zero, i.size, i.bytes)) = some (some (.int .i64 0), 1, 8) := by kernel_rfl
theorem info4 : (Yba.prog.info? 4).map (fun i => (i.zero, i.size, i.bytes)) = some (some (.bool false), 1, 1) := by kernel_rfl
theorem make26 (w : World) : (Instr.makeSlice 26 (.int .i64 2) (.int .i64 2)).run Yba.prog w = .ok (.slice (some ⟨w.heap.size, 0, none⟩) 2 2) (w.alloc (.cells #[nilS, nilS] 23)) := by kernel_rfl
theorem make27 (w : World) : (Instr.makeSlice 27 (.int .i64 2) (.int .i64 2)).run Yba.prog w = .ok (.slice (some ⟨w.heap.size, 0, none⟩) 2 2) (w.alloc (.cells #[nilS, nilS] 24)) := by kernel_rfl
theorem make28 (w : World) : (Instr.makeSlice 28 (.int .i64 2) (.int .i64 2)).run Yba.prog w = .ok (.slice (some ⟨w.heap.size, 0, none⟩) 2 2) (w.alloc (.cells #[.int .u64 0, .int .u64 0] 45)) := by kernel_rfl
theorem make23 (n : Nat) (h : n ≤ 2000) (w : World) : (Instr.makeSlice 23 (.int .i64 (n : Int)) (.int .i64 (n : Int))).run Yba.prog w = .ok (.slice (some ⟨w.heap.size, 0, none⟩) n n) (w.alloc (.cells (intsR .i64 (List.replicate n 0)).toArray 3)) := by
  have := run_make_rows (P := Yba.prog) Yba.underlying23 info3 [.int .i64 0] rfl rfl (by omega) (by omega) n (by omega) w
  rw [this, flat_rep_one (fun x : Int => Value.int .i64 x) 0 n]; rfl
theorem make24 (n : Nat) (h : n ≤ 2000) (w : World) : (Instr.makeSlice 24 (.int .i64 (n : Int)) (.int .i64 (n : Int))).run Yba.prog w = .ok (.slice (some ⟨w.heap.size, 0, none⟩) n n) (w.alloc (.cells (boolsR (List.replicate n false)).toArray 4)) := by
  have := run_make_rows (P := Yba.prog) Yba.underlying24 info4 [.bool false] rfl rfl (by omega) (by omega) n (by omega) w
  rw [this, flat_rep_one (fun x : Bool => Value.bool x) false n]; rfl
theorem make31 (n : Nat) (h : n ≤ 2000) (w : World) : (Instr.makeSlice 31 (.int .i64 (n : Int)) (.int .i64 (n : Int))).run Yba.prog w = .ok (.slice (some ⟨w.heap.size, 0, none⟩) n n) (w.alloc (.cells (intsR .i32 (List.replicate n 0)).toArray 21)) := by
  have := run_make_rows (P := Yba.prog) Yba.underlying31 info21 [.int .i32 0] rfl rfl (by omega) (by omega) n (by omega) w
  rw [this, flat_rep_one (fun x : Int => Value.int .i32 x) 0 n]; rfl

/-- Three new rows, the node, and two rows more. -/
theorem mem_start {w0 w : World} {B bN bE bF X bH bG bT n : Nat} (hN : Blk w bN 33 (node10 n bH bG bT)) (hT : Blk w bT 45 [.int .u64 0, .int .u64 0]) (hH : Blk w bH 23 [nilS, nilS]) (hG : Blk w bG 24 [nilS, nilS]) (hE : Blk w bE 23 [nilS, nilS]) (hF : Blk w bF 24 [nilS, nilS])
    (hb : Below B w0 w) (o1 : B ≤ bN ∧ B ≤ bE ∧ B ≤ bF ∧ B ≤ bH ∧ B ≤ bG ∧ B ≤ bT) (o2 : bN < X ∧ bE < X ∧ bF < X ∧ bH < X ∧ bG < X ∧ bT < X) (o3 : bH ≠ bE ∧ bG ≠ bF) (o4 : X ≤ w.heap.size) (rw er : Nat → Pair) :
    Mem w0 w B bN bE bF X bH bG bT n 0 rw er :=
  ⟨hN, hT, hH, hG, hE, hF, fun i hi => by omega, hb, o1, o2, o3, by omega⟩

def szp (n k : Nat) : Nat := if k = 0 then 1 else sz n (k - 1)
/-- The rows as they are filled, level by level; of level k the first j cells. -/
def rows (n : Nat) (iv : Nat → Int) (ig : Nat → Bool) (k j : Nat) (i : Nat) : Pair := if i = k then (mix iv (fun _ => 0) (sz n i) j, mix ig (fun _ => false) (sz n i) j) else (mix iv (fun _ => 0) (sz n i) (sz n i), mix ig (fun _ => false) (sz n i) (sz n i))

/-- Four new blocks and a draw. -/
theorem four (w : World) (a1 a2 a3 a4 : Array Value) (t1 t2 t3 t4 : TypeId) :
    Blk ((((w.alloc (.cells a1 t1)).alloc (.cells a2 t2)).alloc (.cells a3 t3)).alloc (.cells a4 t4)).drew w.heap.size t1 a1.toList ∧ Blk ((((w.alloc (.cells a1 t1)).alloc (.cells a2 t2)).alloc (.cells a3 t3)).alloc (.cells a4 t4)).drew (w.heap.size + 1) t2 a2.toList ∧
    Blk ((((w.alloc (.cells a1 t1)).alloc (.cells a2 t2)).alloc (.cells a3 t3)).alloc (.cells a4 t4)).drew (w.heap.size + 1 + 1) t3 a3.toList ∧ Blk ((((w.alloc (.cells a1 t1)).alloc (.cells a2 t2)).alloc (.cells a3 t3)).alloc (.cells a4 t4)).drew (w.heap.size + 1 + 1 + 1) t4 a4.toList ∧
    Below w.heap.size w ((((w.alloc (.cells a1 t1)).alloc (.cells a2 t2)).alloc (.cells a3 t3)).alloc (.cells a4 t4)).drew ∧ ((((w.alloc (.cells a1 t1)).alloc (.cells a2 t2)).alloc (.cells a3 t3)).alloc (.cells a4 t4)).drew.heap.size = w.heap.size + 1 + 1 + 1 + 1 := by
  refine ⟨?_, ?_, ?_, ?_, ?_, ?_⟩
  · exact (((Blk.made (w := w) (e := t1) a1).alloc (.cells a2 t2)).alloc (.cells a3 t3)).alloc (.cells a4 t4)
  · have := ((Blk.made (w := w.alloc (.cells a1 t1)) (e := t2) a2).alloc (.cells a3 t3)).alloc (.cells a4 t4)
    simp only [World.size_alloc] at this
    exact this
  · have := (Blk.made (w := (w.alloc (.cells a1 t1)).alloc (.cells a2 t2)) (e := t3) a3).alloc (.cells a4 t4)
    simp only [World.size_alloc] at this
    exact this
  · have := Blk.made (w := ((w.alloc (.cells a1 t1)).alloc (.cells a2 t2)).alloc (.cells a3 t3)) (e := t4) a4
    simp only [World.size_alloc] at this
    exact this
  · exact (((((Below.refl _ _).alloc (Nat.le_refl _) _).alloc (by simp) _).alloc (by simp; omega) _).alloc (by simp; omega) _).drew
  · show ((((w.alloc (.cells a1 t1)).alloc (.cells a2 t2)).alloc (.cells a3 t3)).alloc (.cells a4 t4)).heap.size = _
    simp only [World.size_alloc]

theorem Mem.congr {w0 w : World} {B bN bE bF X bH bG bT n k : Nat} {rw er rw' er' : Nat → Pair} (h : Mem w0 w B bN bE bF X bH bG bT n k rw er) (h1 : ∀ i, i < k → rw i = rw' i) (h2 : ∀ i, i < k → er i = er' i) : Mem w0 w B bN bE bF X bH bG bT n k rw' er' :=
  ⟨h.hN, h.hT, h.hH, h.hG, h.hE, h.hF, fun i hi => by rw [← h1 i hi, ← h2 i hi]; exact h.hr i hi, h.hb, h.o1, h.o2, h.o3, h.o4⟩

/-- A new row at z, linked at place k of block b. -/
def Step (w wx : World) (b : Nat) (e t : TypeId) (olds : List Value) (k : Nat) (u : Value) (row : List Value) (z : Nat) : Prop :=
  Kept w.heap.size (fun x => x = b) w wx ∧ Blk wx b e (olds.set k u) ∧ Blk wx z t row ∧ wx.heap.size = z + 1
theorem step_mk {w : World} {b : Nat} {e t : TypeId} {olds : List Value} {k : Nat} {u : Value} {row : List Value} {z : Nat} (h : Blk w b e olds) (hz : w.heap.size = z) :
    Step w ((w.setCell ⟨b, k, none⟩ u).alloc (.cells row.toArray t)) b e t olds k u row z := by
  have hl := h.lt
  have hs : (w.setCell ⟨b, k, none⟩ u).heap.size = w.heap.size := by simp [World.setCell]
  refine ⟨((Kept.refl _ (fun x => x = b) w).setCell (x := ⟨b, k, none⟩) (Or.inl rfl) u).alloc (by omega) _, (h.set k u).alloc _, ?_, by simp [World.setCell]; omega⟩
  have h1 := Blk.made (w := w.setCell ⟨b, k, none⟩ u) (e := t) row.toArray
  rw [hs, hz] at h1
  exact h1
theorem step_mk2 {w : World} {b : Nat} {e t : TypeId} {olds : List Value} {k : Nat} {u : Value} {row : List Value} {z : Nat} (h : Blk w b e olds) (hz : w.heap.size = z) :
    Step w ((w.setCell ⟨b, k, none⟩ u).alloc (.cells row.toArray t)).drew b e t olds k u row z := by
  obtain ⟨h1, h2, h3, h4⟩ := step_mk (k := k) (u := u) (row := row) (t := t) h hz
  exact ⟨h1.drew, h2, h3, h4⟩

theorem Kept.ofBelow {base B : Nat} {p : Nat → Prop} {a b : World} (h : Below B a b) (hb : base ≤ B) : Kept base p a b := ⟨h.os, h.tape, h.output, h.size, fun k hk _ => h.block k (by omega)⟩

theorem make30 (n : Nat) (h : n ≤ 2000) : ∃ cs : Array Value, cs.size = n * 3 ∧ ∀ w : World, (Instr.makeSlice 30 (.int .i64 0) (.int .i64 (n : Int))).run Yba.prog w = .ok (.slice (some ⟨w.heap.size, 0, none⟩) 0 n) (w.alloc (.cells cs 38)) := by
  obtain ⟨i, hi, h1, h2, h3⟩ := info_parts info38
  refine ⟨madeCells #[.int .i64 0, .bool false, .int .i64 0] (n * 3), by simp [madeCells], fun w => ?_⟩
  have hr := run_make (P := Yba.prog) w 30 38 i _ Yba.underlying30 hi h1 .i64 .i64 0 (n : Int) (by omega) (by omega) (by rw [h3]; omega) (by omega)
  rw [hr, h2]
  rfl

/-! The spans that the law builds. -/
def posF (xC : Nat → Nat) (L : Nat) : Nat → Nat
  | 0 => 0
  | k + 1 => posF xC L k + min (xC k % 4) (L - posF xC L k)
def cntF (xC : Nat → Nat) (L k : Nat) : Nat := min (xC k % 4) (L - posF xC L k)
def vF (xV : Nat → Int) (LV i : Nat) : Int := if i < LV then xV i else 0
def okF (xO : Nat → Bool) (LO i : Nat) : Bool := if i < LO then xO i else decide ((i : Int) % 2 = 0)
theorem posF_succ (xC : Nat → Nat) (L k : Nat) : posF xC L (k + 1) = posF xC L k + cntF xC L k := rfl
theorem posF_le (xC : Nat → Nat) (L : Nat) : ∀ k, posF xC L k ≤ L
  | 0 => Nat.zero_le _
  | k + 1 => by
    have := posF_le xC L k
    unfold posF
    omega
def spansF (v : Nat → Int) (ok : Nat → Bool) (cnt : Nat → Nat) (k : Nat) : List Value := (List.range k).flatMap fun i => span3 (v i) (ok i) (cnt i)
theorem spansF_succ (v : Nat → Int) (ok : Nat → Bool) (cnt : Nat → Nat) (k : Nat) : spansF v ok cnt (k + 1) = spansF v ok cnt k ++ span3 (v k) (ok k) (cnt k) := by
  simp [spansF, List.range_succ]
theorem spansF_len (v : Nat → Int) (ok : Nat → Bool) (cnt : Nat → Nat) (k : Nat) : (spansF v ok cnt k).length = k * 3 := by
  have := flat_len (fun i => span3 (v i) (ok i) (cnt i)) 3 (fun _ => rfl) (List.range k)
  simpa [spansF] using this
theorem spansF_get (v : Nat → Int) (ok : Nat → Bool) (cnt : Nat → Nat) (k j t : Nat) (hj : j < k) (ht : t < 3) : (spansF v ok cnt k)[j * 3 + t]? = (span3 (v j) (ok j) (cnt j))[t]? := by
  unfold spansF
  rw [flat_get (fun i => span3 (v i) (ok i) (cnt i)) 3 (fun _ => rfl) _ j t ht]
  simp [hj]
theorem spansF_one (v : Nat → Int) (ok : Nat → Bool) (cnt : Nat → Nat) (k : Nat) : ∀ u ∈ spansF v ok cnt k, u.oneCell' = true := by
  intro u hu
  simp only [spansF, List.mem_flatMap] at hu
  obtain ⟨i, _, hi⟩ := hu
  simp only [span3, List.mem_cons, List.not_mem_nil, or_false] at hi
  rcases hi with rfl | rfl | rfl <;> rfl
/-- Three cells of each span, wherever the spans lie. -/
theorem spans_at {w : World} {b m : Nat} {v : Nat → Int} {ok : Nat → Bool} {cnt : Nat → Nat} (h : ∀ j, j < m * 3 → w.cell? ⟨b, j, none⟩ = (spansF v ok cnt m)[j]?) (k : Nat) (hk : k < m) :
    w.cell? ⟨b, k * 3, none⟩ = some (.int .i64 (v k)) ∧ w.cell? ⟨b, k * 3 + 1, none⟩ = some (.bool (ok k)) ∧ w.cell? ⟨b, k * 3 + 2, none⟩ = some (.int .i64 (cnt k : Int)) := by
  refine ⟨?_, ?_, ?_⟩
  · rw [h _ (by omega)]; exact spansF_get v ok cnt m k 0 hk (by omega)
  · rw [h _ (by omega)]; exact spansF_get v ok cnt m k 1 hk (by omega)
  · rw [h _ (by omega)]; exact spansF_get v ok cnt m k 2 hk (by omega)

theorem span_cells (w : World) (v : Int) (ok : Bool) (c : Nat) : ∀ j u, (span3 v ok c)[j]? = some u → (w.alloc (.cells #[.int .i64 v, .bool ok, .int .i64 (c : Int)] 38)).cell? ((⟨w.heap.size, 0, none⟩ : Addr).add j) = some u := by
  intro j u hj
  have h := Blk.made (w := w) (e := 38) #[.int .i64 v, .bool ok, .int .i64 (c : Int)]
  have h2 := h.cell j
  have e : ((⟨w.heap.size, 0, none⟩ : Addr).add j) = ⟨w.heap.size, j, none⟩ := by
    simp only [Addr.add, Nat.zero_add]
    split
    · next h => subst h; rfl
    · rfl
  rw [e, h2]
  exact hj

theorem plan_mk {vv : Nat → Int} {oo : Nat → Bool} {cnt pos ps : Nat → Nat} {xC xI : Nat → Nat} {n f1 LC LI pp ρ : Nat} (hc : cnt = cntF xC LI) (hp : pos = posF xC LI) (hs : ps = fun i => xI i % pp) (hpp : pp = if ρ = 1 then n else 1) (hρ : ρ ≤ 1) (hn : n ≤ 6) (hf : f1 < n) (hL : LI ≤ 1024) (hm : LC ≤ 1024) :
    Plan vv oo cnt pos ps n f1 LC LI (sz n ρ) := by
  subst hc hp hs
  refine ⟨rfl, fun k _ => rfl, fun k _ => posF_le _ _ _, ?_, hn, hL, hm, ?_, ?_, by omega⟩
  · intro i _
    show xI i % pp * n + f1 < sz n ρ
    rcases (show ρ = 0 ∨ ρ = 1 by omega) with rfl | rfl
    · have : pp = 1 := by rw [hpp, if_neg (by omega)]
      subst this
      rw [Nat.mod_one]
      simp [sz]
      exact hf
    · have : pp = n := by rw [hpp, if_pos rfl]
      subst this
      have h1 : xI i % pp < pp := Nat.mod_lt _ (by omega)
      have h2 : (xI i % pp + 1) * pp ≤ pp * pp := Nat.mul_le_mul_right _ h1
      rw [Nat.add_mul] at h2
      simp [sz]
      omega
  · unfold sz
    split
    · omega
    · exact Nat.le_trans (Nat.mul_le_mul hn hn) (by omega)
  · intro i _
    show xI i % pp ≤ 5
    rcases (show ρ = 0 ∨ ρ = 1 by omega) with rfl | rfl
    · have : pp = 1 := by rw [hpp, if_neg (by omega)]
      subst this
      rw [Nat.mod_one]
      omega
    · have : pp = n := by rw [hpp, if_pos rfl]
      subst this
      have h1 : xI i % pp < pp := Nat.mod_lt _ (by omega)
      omega

#print axioms spans_at
end Go.Proofs.Ybulkcgeu
