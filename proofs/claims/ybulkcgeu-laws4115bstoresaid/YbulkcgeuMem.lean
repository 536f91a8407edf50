/-
  What the law's own memory holds.
-/
import Derived.Test.YbulkcgeuStore
namespace Go.Proofs.Ybulkcgeu
open Go.RowKit

/-- A slice argument: nil or empty, or a row of cells. -/
structure Arg (w : World) (a : Option Addr) (b off len : Nat) (f : Nat → Value) : Prop where
  ad : 0 < len → a = some ⟨b, off, none⟩
  cl : ∀ j, j < len → w.cell? ⟨b, off + j, none⟩ = some (f j)
theorem Arg.later {w w' : World} {a : Option Addr} {b off len : Nat} {f : Nat → Value} (h : Arg w a b off len f) (hb : Below w.heap.size w w') {j : Nat} (hj : j < len) : w'.cell? ⟨b, off + j, none⟩ = some (f j) :=
  cell_later hb (h.cl j hj)

def nilS : Value := .slice none 0 0
/-- Row i of n, i from 0: n^(i+1) cells. -/
def sz (n i : Nat) : Nat := if i = 0 then n else n * n
def sl (b n i : Nat) : Value := .slice (some ⟨b, 0, none⟩) (sz n i) (sz n i)
def node10 (n bH bG bT : Nat) : List Value := [.int .i64 1, .int .i64 (n : Int), .int .i64 1, .int .i64 0, .slice (some ⟨bH, 0, none⟩) 2 2, .slice (some ⟨bG, 0, none⟩) 2 2, .slice (some ⟨bT, 0, none⟩) 2 2, nilS, nilS, nilS]

/-- bN: the node; bE, bF: expH, expG; from X on the rows, four a level: held, got, expH, expG. k levels lie there. -/
structure Mem (w0 w : World) (B bN bE bF X bH bG bT n k : Nat) (rw er : Nat → Pair) : Prop where
  hN : Blk w bN 33 (node10 n bH bG bT)
  hT : Blk w bT 45 [.int .u64 0, .int .u64 0]
  hH : Blk w bH 23 (mix (fun i => sl (X + 4 * i) n i) (fun _ => nilS) 2 k)
  hG : Blk w bG 24 (mix (fun i => sl (X + 4 * i + 1) n i) (fun _ => nilS) 2 k)
  hE : Blk w bE 23 (mix (fun i => sl (X + 4 * i + 2) n i) (fun _ => nilS) 2 k)
  hF : Blk w bF 24 (mix (fun i => sl (X + 4 * i + 3) n i) (fun _ => nilS) 2 k)
  hr : ∀ i, i < k → Blk w (X + 4 * i) 3 (intsR .i64 (rw i).1) ∧ Blk w (X + 4 * i + 1) 4 (boolsR (rw i).2) ∧ Blk w (X + 4 * i + 2) 3 (intsR .i64 (er i).1) ∧ Blk w (X + 4 * i + 3) 4 (boolsR (er i).2)
  hb : Below B w0 w
  o1 : B ≤ bN ∧ B ≤ bE ∧ B ≤ bF ∧ B ≤ bH ∧ B ≤ bG ∧ B ≤ bT
  o2 : bN < X ∧ bE < X ∧ bF < X ∧ bH < X ∧ bG < X ∧ bT < X
  o3 : bH ≠ bE ∧ bG ≠ bF
  o4 : X + 4 * k ≤ w.heap.size

theorem Blk.ne {w : World} {b c : Nat} {e f : TypeId} {xs ys : List Value} (h : Blk w b e xs) (k : Blk w c f ys) (hef : e ≠ f) : b ≠ c := by
  rintro rfl
  unfold Blk at h k
  rw [h] at k
  simp at k
  exact hef k.2

/-- Nothing of it is touched. -/
theorem Mem.kept {w0 w w' : World} {B bN bE bF X bH bG bT n k : Nat} {rw er : Nat → Pair} (h : Mem w0 w B bN bE bF X bH bG bT n k rw er) (hk : Kept (X + 4 * k) (fun _ => False) w w') : Mem w0 w' B bN bE bF X bH bG bT n k rw er := by
  have kp : ∀ b e xs, b < X + 4 * k → Blk w b e xs → Blk w' b e xs := fun b e xs hb hB => hB.keep (hk.block b hb (fun h => h))
  obtain ⟨a1, a2, a3, a4, a5, a6⟩ := h.o2
  refine ⟨kp _ _ _ (by omega) h.hN, kp _ _ _ (by omega) h.hT, kp _ _ _ (by omega) h.hH, kp _ _ _ (by omega) h.hG, kp _ _ _ (by omega) h.hE, kp _ _ _ (by omega) h.hF, ?_, ?_, h.o1, h.o2, h.o3, by have := hk.size; have := h.o4; omega⟩
  · intro i hi
    obtain ⟨r1, r2, r3, r4⟩ := h.hr i hi
    exact ⟨kp _ _ _ (by omega) r1, kp _ _ _ (by omega) r2, kp _ _ _ (by omega) r3, kp _ _ _ (by omega) r4⟩
  · obtain ⟨c1, _⟩ := h.o1
    exact h.hb.trans (hk.below (by omega) (fun _ h => h.elim))

/-- One level's rows are rewritten, all else stays. -/
theorem Mem.upd {w0 w w' : World} {B bN bE bF X bH bG bT n k : Nat} {rw er rw' er' : Nat → Pair} (h : Mem w0 w B bN bE bF X bH bG bT n k rw er) (i : Nat)
    (hk : Kept (X + 4 * k) (fun b => X + 4 * i ≤ b ∧ b < X + 4 * i + 4) w w') (hi : i < k) (h1 : Blk w' (X + 4 * i) 3 (intsR .i64 (rw' i).1)) (h2 : Blk w' (X + 4 * i + 1) 4 (boolsR (rw' i).2)) (h3 : Blk w' (X + 4 * i + 2) 3 (intsR .i64 (er' i).1)) (h4 : Blk w' (X + 4 * i + 3) 4 (boolsR (er' i).2))
    (hrw : ∀ j, j < k → j ≠ i → rw' j = rw j) (her : ∀ j, j < k → j ≠ i → er' j = er j) : Mem w0 w' B bN bE bF X bH bG bT n k rw' er' := by
  have kp : ∀ b e xs, b < X + 4 * k → ¬ (X + 4 * i ≤ b ∧ b < X + 4 * i + 4) → Blk w b e xs → Blk w' b e xs := fun b e xs hb hn hB => hB.keep (hk.block b hb hn)
  obtain ⟨a1, a2, a3, a4, a5, a6⟩ := h.o2
  obtain ⟨c1, c2, c3, c4, c5, c6⟩ := h.o1
  refine ⟨kp _ _ _ (by omega) (by omega) h.hN, kp _ _ _ (by omega) (by omega) h.hT, kp _ _ _ (by omega) (by omega) h.hH, kp _ _ _ (by omega) (by omega) h.hG, kp _ _ _ (by omega) (by omega) h.hE, kp _ _ _ (by omega) (by omega) h.hF, ?_, ?_, h.o1, h.o2, h.o3, by have := hk.size; have := h.o4; omega⟩
  · intro j hj
    by_cases e : j = i
    · subst e; exact ⟨h1, h2, h3, h4⟩
    · obtain ⟨r1, r2, r3, r4⟩ := h.hr j hj
      rw [hrw j hj e, her j hj e]
      exact ⟨kp _ _ _ (by omega) (by omega) r1, kp _ _ _ (by omega) (by omega) r2, kp _ _ _ (by omega) (by omega) r3, kp _ _ _ (by omega) (by omega) r4⟩
  · exact h.hb.trans (hk.below (by omega) (fun b hb => by omega))

/-- The four new rows of level k, and the four stores that link them. -/
theorem Mem.more {w0 w : World} {B bN bE bF X bH bG bT n k : Nat} {rw er : Nat → Pair} (h : Mem w0 w B bN bE bF X bH bG bT n k rw er) (hk : k < 2) (w' : World) (z : Pair)
    (hsz : w'.heap.size = X + 4 * k + 4) (hr' : rw k = z ∧ er k = z)
    (m1 : w'.heap[X + 4 * k]? = some (.cells (intsR .i64 z.1).toArray 3 (0, 0))) (m2 : w'.heap[X + 4 * k + 1]? = some (.cells (boolsR z.2).toArray 4 (0, 0))) (m3 : w'.heap[X + 4 * k + 2]? = some (.cells (intsR .i64 z.1).toArray 3 (0, 0))) (m4 : w'.heap[X + 4 * k + 3]? = some (.cells (boolsR z.2).toArray 4 (0, 0)))
    (s1 : Blk w' bH 23 ((mix (fun i => sl (X + 4 * i) n i) (fun _ => nilS) 2 k).set k (sl (X + 4 * k) n k))) (s2 : Blk w' bG 24 ((mix (fun i => sl (X + 4 * i + 1) n i) (fun _ => nilS) 2 k).set k (sl (X + 4 * k + 1) n k)))
    (s3 : Blk w' bE 23 ((mix (fun i => sl (X + 4 * i + 2) n i) (fun _ => nilS) 2 k).set k (sl (X + 4 * k + 2) n k))) (s4 : Blk w' bF 24 ((mix (fun i => sl (X + 4 * i + 3) n i) (fun _ => nilS) 2 k).set k (sl (X + 4 * k + 3) n k)))
    (hkp : Kept (X + 4 * k) (fun b => b = bH ∨ b = bG ∨ b = bE ∨ b = bF) w w') : Mem w0 w' B bN bE bF X bH bG bT n (k + 1) rw er := by
  have kp : ∀ b e xs, b < X + 4 * k → ¬ (b = bH ∨ b = bG ∨ b = bE ∨ b = bF) → Blk w b e xs → Blk w' b e xs := fun b e xs hb hn hB => hB.keep (hkp.block b hb hn)
  obtain ⟨a1, a2, a3, a4, a5, a6⟩ := h.o2
  obtain ⟨c1, c2, c3, c4, c5, c6⟩ := h.o1
  have nN := And.intro (h.hN.ne h.hH (by decide)) (And.intro (h.hN.ne h.hG (by decide)) (And.intro (h.hN.ne h.hE (by decide)) (h.hN.ne h.hF (by decide))))
  have nT := And.intro (h.hT.ne h.hH (by decide)) (And.intro (h.hT.ne h.hG (by decide)) (And.intro (h.hT.ne h.hE (by decide)) (h.hT.ne h.hF (by decide))))
  rw [mix_set _ _ _ _ _ rfl] at s1 s2 s3 s4
  refine ⟨kp _ _ _ (by omega) (by omega) h.hN, kp _ _ _ (by omega) (by omega) h.hT, s1, s2, s3, s4, ?_, ?_, h.o1, h.o2, h.o3, by omega⟩
  · intro j hj
    by_cases e : j = k
    · subst e
      rw [hr'.1, hr'.2]
      exact ⟨m1, m2, m3, m4⟩
    · obtain ⟨r1, r2, r3, r4⟩ := h.hr j (by omega)
      exact ⟨kp _ _ _ (by omega) (by omega) r1, kp _ _ _ (by omega) (by omega) r2, kp _ _ _ (by omega) (by omega) r3, kp _ _ _ (by omega) (by omega) r4⟩
  · exact h.hb.trans (hkp.below (by omega) (fun b hb => by omega))

#print axioms Mem.more
end Go.Proofs.Ybulkcgeu
