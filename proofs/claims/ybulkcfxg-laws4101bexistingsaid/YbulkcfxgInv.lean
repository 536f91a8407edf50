/-
  What the law's own memory holds at each round's head.
-/
import Derived.Test.YbulkcfxgOut
import Derived.Test.YbulkcfxgLists
namespace Go.Proofs.Ybulkcfxg
open Go.RowKit

/-- A peer with a zero receiving end and sending end x. -/
def peer6 (x : Nat) : List Value := [.int .u64 0, .int .u32 0, .int .u8 0, .int .u8 0, .int .u8 0, .int .u32 (x : Int)]
theorem peer6_len (x : Nat) : (peer6 x).length = 6 := rfl
def peersOf (r : List Nat) : List Value := r.flatMap peer6
/-- An end whose lastSent is m. -/
def outN (m : Nat) : List Value := out6 (m : Int)
theorem outN_len (x : Nat) : (outN x).length = 6 := rfl
def outsOf (ms : List Nat) : List Value := ms.flatMap outN

theorem peers_get (r : List Nat) (j t : Nat) (hj : j < r.length) (ht : t < 6) : (peersOf r)[j * 6 + t]? = (peer6 (r.getD j 0))[t]? := by
  unfold peersOf
  rw [flat_get peer6 6 peer6_len r j t ht]
  simp [List.getElem?_eq_getElem hj]
theorem outs_get (r : List Nat) (j t : Nat) (hj : j < r.length) (ht : t < 6) : (outsOf r)[j * 6 + t]? = (outN (r.getD j 0))[t]? := by
  unfold outsOf
  rw [flat_get outN 6 outN_len r j t ht]
  simp [List.getElem?_eq_getElem hj]
theorem outs_len (r : List Nat) : (outsOf r).length = r.length * 6 := flat_len outN 6 outN_len r
theorem peers_len (r : List Nat) : (peersOf r).length = r.length * 6 := flat_len peer6 6 peer6_len r
theorem peers_set (r : List Nat) (j y : Nat) (hj : j < r.length) : (peersOf r).set (j * 6 + 5) (.int .u32 (y : Int)) = peersOf (r.set j y) :=
  flat_set peer6 6 peer6_len y _ 5 (by omega) r j (fun x _ => rfl) hj
theorem outs_set (r : List Nat) (j y : Nat) (hj : j < r.length) : (outsOf r).set (j * 6) (.int .u64 (y : Int)) = outsOf (r.set j y) := by
  have := flat_set outN 6 outN_len y (.int .u64 (y : Int)) 0 (by omega) r j (fun x _ => rfl) hj
  exact this
theorem outs_snoc (ms : List Nat) (m : Nat) : outsOf (ms ++ [m]) = outsOf ms ++ out6 (m : Int) := by simp [outsOf, outN]

/-- The clock's cells: peers and outs, all else zero. -/
def clock27 (p o : Value) : List Value := [.int .i32 0, .int .u32 0, .string ⟨#[]⟩, .string ⟨#[]⟩, .slice none 0 0, .slice none 0 0, .slice none 0 0, .slice none 0 0, .slice none 0 0, .slice none 0 0, p, .slice none 0 0, .int .u32 0, .int .u32 0, .int .i64 0, o,
  .slice none 0 0, .slice none 0 0, .slice none 0 0, .slice none 0 0, .slice none 0 0, .slice none 0 0, .slice none 0 0, .slice none 0 0, .bool false, .pointer none, .string ⟨#[]⟩]

def ranksOf (r : List Nat) : List Value := r.map fun x : Nat => .int .i64 (x : Int)
def marksOf (r : List Nat) : List Value := r.map fun x : Nat => .int .u64 (x : Int)
theorem ranks_get (r : List Nat) (j : Nat) (hj : j < r.length) : (ranksOf r)[j]? = some (.int .i64 (r.getD j 0 : Int)) := by simp [ranksOf, hj]
theorem marks_get (r : List Nat) (j : Nat) (hj : j < r.length) : (marksOf r)[j]? = some (.int .u64 (r.getD j 0 : Int)) := by simp [marksOf, hj]
theorem ranks_set (r : List Nat) (j y : Nat) : (ranksOf r).set j (.int .i64 (y : Int)) = ranksOf (r.set j y) := by simp [ranksOf, List.map_set]
theorem marks_set (r : List Nat) (j y : Nat) : (marksOf r).set j (.int .u64 (y : Int)) = marksOf (r.set j y) := by simp [marksOf, List.map_set]

/-- The law's memory: peers at B, the clock at B + 1, rank at B + 2, mark at B + 3, outs above. r: the ranks; m: the marks; ms: what the ends hold. -/
structure Inv (w0 w : World) (B np : Nat) (r m ms : List Nat) (v : Value) : Prop where
  hC : Blk w (B + 1) 45 (clock27 (.slice (some ⟨B, 0, none⟩) np np) v)
  hP : Blk w B 57 (peersOf r)
  hR : Blk w (B + 1 + 1) 3 (ranksOf r)
  hM : Blk w (B + 1 + 1 + 1) 49 (marksOf m)
  hO : w.ownsRow (B + 1 + 1 + 1 + 1) 53 6 v ms.length (outsOf ms)
  hr : r.length = np
  hm : m.length = np
  hk : ∀ j, j < np → r.getD j 0 ≠ 0 → r.getD j 0 ≤ ms.length ∧ ms.getD (r.getD j 0 - 1) 0 = m.getD j 0
  hb : Below B w0 w
  hz : B + 1 + 1 + 1 + 1 ≤ w.heap.size

theorem Inv.drewN {w0 w : World} {B np : Nat} {r m ms : List Nat} {v : Value} (h : Inv w0 w B np r m ms v) (n : Nat) : Inv w0 (w.drewN n) B np r m ms v :=
  ⟨h.hC, h.hP, h.hR, h.hM, h.hO, h.hr, h.hm, h.hk, ⟨h.hb.os, h.hb.tape, h.hb.output, h.hb.size, h.hb.block⟩, h.hz⟩

theorem Inv.c10 {w0 w : World} {B np : Nat} {r m ms : List Nat} {v : Value} (h : Inv w0 w B np r m ms v) : w.cell? ⟨B + 1, 10, none⟩ = some (.slice (some ⟨B, 0, none⟩) np np) := (h.hC.cell 10).trans rfl
theorem Inv.c15 {w0 w : World} {B np : Nat} {r m ms : List Nat} {v : Value} (h : Inv w0 w B np r m ms v) : w.cell? ⟨B + 1, 15, none⟩ = some v := (h.hC.cell 15).trans rfl
theorem Inv.rank {w0 w : World} {B np : Nat} {r m ms : List Nat} {v : Value} (h : Inv w0 w B np r m ms v) {j q : Nat} (hj : j < np) (hq : r.getD j 0 = q) : w.cell? ⟨B + 1 + 1, j, none⟩ = some (.int .i64 (q : Int)) := by
  rw [h.hR.cell j, ranks_get r j (by rw [h.hr]; exact hj), hq]
theorem Inv.mark {w0 w : World} {B np : Nat} {r m ms : List Nat} {v : Value} (h : Inv w0 w B np r m ms v) {j q : Nat} (hj : j < np) (hq : m.getD j 0 = q) : w.cell? ⟨B + 1 + 1 + 1, j, none⟩ = some (.int .u64 (q : Int)) := by
  rw [h.hM.cell j, marks_get m j (by rw [h.hm]; exact hj), hq]
theorem Inv.peer {w0 w : World} {B np : Nat} {r m ms : List Nat} {v : Value} (h : Inv w0 w B np r m ms v) {j q : Nat} (hj : j < np) (hq : r.getD j 0 = q) :
    w.cell? ⟨B, j * 6, none⟩ = some (.int .u64 0) ∧ w.cell? ⟨B, j * 6 + 1, none⟩ = some (.int .u32 0) ∧ w.cell? ⟨B, j * 6 + 2, none⟩ = some (.int .u8 0) ∧ w.cell? ⟨B, j * 6 + 3, none⟩ = some (.int .u8 0) ∧
      w.cell? ⟨B, j * 6 + 4, none⟩ = some (.int .u8 0) ∧ w.cell? ⟨B, j * 6 + 5, none⟩ = some (.int .u32 (q : Int)) := by
  have hl : j < r.length := by rw [h.hr]; exact hj
  refine ⟨?_, ?_, ?_, ?_, ?_, ?_⟩
  · rw [h.hP.cell (j * 6)]; have := peers_get r j 0 hl (by omega); rw [Nat.add_zero] at this; rw [this]; rfl
  · rw [h.hP.cell, peers_get r j 1 hl (by omega)]; rfl
  · rw [h.hP.cell, peers_get r j 2 hl (by omega)]; rfl
  · rw [h.hP.cell, peers_get r j 3 hl (by omega)]; rfl
  · rw [h.hP.cell, peers_get r j 4 hl (by omega)]; rfl
  · rw [h.hP.cell, peers_get r j 5 hl (by omega), hq]; rfl

/-- The ranks, marks and ends behind a first call for id. -/
theorem rank_new {np id k : Nat} {r m ms : List Nat} (hid : id < np) (hr : r.length = np) (hm : m.length = np)
    (hk : ∀ j, j < np → r.getD j 0 ≠ 0 → r.getD j 0 ≤ ms.length ∧ ms.getD (r.getD j 0 - 1) 0 = m.getD j 0) :
    ∀ j, j < np → (r.set id (ms.length + 1)).getD j 0 ≠ 0 → (r.set id (ms.length + 1)).getD j 0 ≤ (ms ++ [k]).length ∧ (ms ++ [k]).getD ((r.set id (ms.length + 1)).getD j 0 - 1) 0 = (m.set id k).getD j 0 := by
  intro j hj hne
  by_cases e : j = id
  · subst e
    have h1 : (r.set j (ms.length + 1)).getD j 0 = ms.length + 1 := by simp [List.getD, hr, hj]
    rw [h1]
    refine ⟨by simp, ?_⟩
    simp [List.getD, hm, hj]
  · have h1 : (r.set id (ms.length + 1)).getD j 0 = r.getD j 0 := by simp [List.getD, List.getElem?_set_ne (Ne.symm e)]
    have h2 : (m.set id k).getD j 0 = m.getD j 0 := by simp [List.getD, List.getElem?_set_ne (Ne.symm e)]
    rw [h1] at hne ⊢
    rw [h2]
    obtain ⟨a, b⟩ := hk j hj hne
    refine ⟨by rw [List.length_append]; omega, ?_⟩
    rw [← b]
    generalize r.getD j 0 = q at a hne ⊢
    unfold List.getD
    rw [List.getElem?_append_left (by omega)]

/-- The law's memory behind a first call for id, and the law's own marks. -/
theorem inv_new {w0 w w1 : World} {B np id k g cap : Nat} {r m ms : List Nat} {v : Value} (hI : Inv w0 w B np r m ms v) (hid : id < np) (hg : B + 1 + 1 + 1 + 1 ≤ g)
    (hown1 : w1.ownsRow (B + 1 + 1 + 1 + 1) 53 6 (.slice (some ⟨g, 0, none⟩) (ms.length + 1) cap) (ms.length + 1) (outsOf ms ++ out6 0))
    (hC1 : Blk w1 (B + 1) 45 ((clock27 (.slice (some ⟨B, 0, none⟩) np np) v).set 15 (.slice (some ⟨g, 0, none⟩) (ms.length + 1) cap)))
    (hP1 : Blk w1 B 57 ((peersOf r).set (id * 6 + 5) (.int .u32 ((ms.length + 1 : Nat) : Int)))) (hK1 : Kept (B + 1 + 1 + 1 + 1) (fun k => k = B + 1 ∨ k = B) w w1) :
    Inv w0 (((w1.setCell ⟨B + 1 + 1, id, none⟩ (.int .i64 ((ms.length : Int) + 1))).setCell ⟨B + 1 + 1 + 1, id, none⟩ (.int .u64 ((k : Int) + 1))).setCell ⟨g, ms.length * 6, none⟩ (.int .u64 ((k : Int) + 1)))
      B np (r.set id (ms.length + 1)) (m.set id (k + 1)) (ms ++ [k + 1]) (.slice (some ⟨g, 0, none⟩) (ms.length + 1) cap) := by
  have e1 : (ms.length : Int) + 1 = ((ms.length + 1 : Nat) : Int) := by omega
  have e2 : (k : Int) + 1 = ((k + 1 : Nat) : Int) := by omega
  rw [e1, e2]
  have hR1 : Blk w1 (B + 1 + 1) 3 (ranksOf r) := hI.hR.kept hK1 (by omega) (by omega)
  have hM1 : Blk w1 (B + 1 + 1 + 1) 49 (marksOf m) := hI.hM.kept hK1 (by omega) (by omega)
  have hs := hK1.size
  have hz := hI.hz
  refine ⟨?_, ?_, ?_, ?_, ?_, by rw [List.length_set]; exact hI.hr, by rw [List.length_set]; exact hI.hm, rank_new hid hI.hr hI.hm hI.hk, ?_, ?_⟩
  · exact ((hC1.other (a := ⟨B + 1 + 1, id, none⟩) (by show B + 1 ≠ B + 1 + 1; omega) _).other (a := ⟨B + 1 + 1 + 1, id, none⟩) (by show B + 1 ≠ B + 1 + 1 + 1; omega) _).other (a := ⟨g, ms.length * 6, none⟩) (by show B + 1 ≠ g; omega) _
  · rw [peers_set r id (ms.length + 1) (by rw [hI.hr]; exact hid)] at hP1
    exact ((hP1.other (a := ⟨B + 1 + 1, id, none⟩) (by show B ≠ B + 1 + 1; omega) _).other (a := ⟨B + 1 + 1 + 1, id, none⟩) (by show B ≠ B + 1 + 1 + 1; omega) _).other (a := ⟨g, ms.length * 6, none⟩) (by show B ≠ g; omega) _
  · rw [← ranks_set]
    exact ((hR1.set id _).other (a := ⟨B + 1 + 1 + 1, id, none⟩) (by show B + 1 + 1 ≠ B + 1 + 1 + 1; omega) _).other (a := ⟨g, ms.length * 6, none⟩) (by show B + 1 + 1 ≠ g; omega) _
  · rw [← marks_set]
    exact ((hM1.other (a := ⟨B + 1 + 1, id, none⟩) (by show B + 1 + 1 + 1 ≠ B + 1 + 1; omega) _).set id _).other (a := ⟨g, ms.length * 6, none⟩) (by show B + 1 + 1 + 1 ≠ g; omega) _
  · have h1 := ownsRow_setCell_below (ownsRow_setCell_below hown1 (a := ⟨B + 1 + 1, id, none⟩) (by show B + 1 + 1 < _; omega) (.int .i64 ((ms.length + 1 : Nat) : Int))) (a := ⟨B + 1 + 1 + 1, id, none⟩) (by show B + 1 + 1 + 1 < _; omega) (.int .u64 ((k + 1 : Nat) : Int))
    have h2 := (h1.stored (ms.length * 6) (.int .u64 ((k + 1 : Nat) : Int))).1
    have e3 : (outsOf ms ++ out6 0).set (ms.length * 6) (.int .u64 ((k + 1 : Nat) : Int)) = outsOf (ms ++ [k + 1]) := by
      have h0 : outsOf ms ++ out6 0 = outsOf (ms ++ [0]) := by rw [outs_snoc]; rfl
      rw [h0, outs_set (ms ++ [0]) ms.length (k + 1) (by simp)]
      simp
    rw [e3] at h2
    simpa using h2
  · have b1 : Below B w w1 := hK1.below (by omega) (fun k hk => by rcases hk with rfl | rfl <;> omega)
    exact (((hI.hb.trans b1).setCell (p := ⟨B + 1 + 1, id, none⟩) (by show B ≤ B + 1 + 1; omega) _).setCell (p := ⟨B + 1 + 1 + 1, id, none⟩) (by show B ≤ B + 1 + 1 + 1; omega) _).setCell (p := ⟨g, ms.length * 6, none⟩) (by show B ≤ g; omega) _
  · simp [World.setCell]; omega

#print axioms inv_new
end Go.Proofs.Ybulkcfxg
