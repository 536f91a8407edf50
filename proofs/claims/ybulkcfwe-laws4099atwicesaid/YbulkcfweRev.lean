/-
  The contract of slices.Reverse at ends.
-/
import Derived.Test.YbulkcfweUp
import Derived.BigRegion
namespace Go.Proofs.Ybulkcfwe
open Go.RowKit

/-- The first i and the last i places are turned. -/
def Turned (a0 a : List E) (i : Nat) : Prop := a.length = a0.length ∧ ∀ m, m < a0.length → a.getD m (0, 0) = if m < i ∨ a0.length ≤ m + i then a0.getD (a0.length - 1 - m) (0, 0) else a0.getD m (0, 0)
theorem getD_set' (l : List E) (k : Nat) (e : E) (i : Nat) (hk : k < l.length) : (l.set k e).getD i (0, 0) = if k = i then e else l.getD i (0, 0) := by
  rw [List.getD_eq_getElem?_getD, List.getElem?_set]
  by_cases h : k = i
  · subst h; simp [hk]
  · simp [h, List.getD_eq_getElem?_getD]
theorem turned_start (a0 : List E) : Turned a0 a0 0 := ⟨rfl, fun m hm => by rw [if_neg (by omega)]⟩
theorem turned_step (a0 a : List E) (i j : Nat) (h : Turned a0 a i) (hij : i < j) (hs : i + j + 1 = a0.length) : Turned a0 ((a.set i (a.getD j (0, 0))).set j (a.getD i (0, 0))) (i + 1) := by
  obtain ⟨hl, hg⟩ := h
  refine ⟨by rw [List.length_set, List.length_set, hl], fun m hm => ?_⟩
  rw [getD_set' _ _ _ _ (by rw [List.length_set, hl]; omega), getD_set' _ _ _ _ (by rw [hl]; omega)]
  by_cases h1 : j = m
  · subst h1
    rw [if_pos rfl, if_pos (by omega), hg i (by omega), if_neg (by omega), show a0.length - 1 - j = i by omega]
  · rw [if_neg h1]
    by_cases h2 : i = m
    · subst h2
      rw [if_pos rfl, if_pos (by omega), hg j (by omega), if_neg (by omega), show a0.length - 1 - i = j by omega]
    · rw [if_neg h2, hg m hm]
      by_cases h3 : m < i ∨ a0.length ≤ m + i
      · rw [if_pos h3, if_pos (by omega)]
      · rw [if_neg h3, if_neg (by omega)]
theorem turned_end (a0 a : List E) (i j : Nat) (h : Turned a0 a i) (hij : j ≤ i) (hs : i + j + 1 = a0.length) : a = a0.reverse := by
  obtain ⟨hl, hg⟩ := h
  apply List.ext_getElem?
  intro m
  by_cases hm : m < a0.length
  · have h1 := hg m hm
    have h2 : (if m < i ∨ a0.length ≤ m + i then a0.getD (a0.length - 1 - m) (0, 0) else a0.getD m (0, 0)) = a0.getD (a0.length - 1 - m) (0, 0) := by
      by_cases h3 : m < i ∨ a0.length ≤ m + i
      · rw [if_pos h3]
      · rw [if_neg h3, show a0.length - 1 - m = m by omega]
    rw [h2, List.getD_eq_getElem?_getD, List.getD_eq_getElem?_getD, List.getElem?_eq_getElem (by omega), List.getElem?_eq_getElem (by omega)] at h1
    rw [List.getElem?_reverse hm, List.getElem?_eq_getElem (by omega), List.getElem?_eq_getElem (by omega)]
    simp at h1
    rw [h1]
  · rw [List.getElem?_eq_none (by omega), List.getElem?_eq_none (by simp; omega)]

set_option maxRecDepth 100000 in
set_option maxHeartbeats 2000000 in
theorem rev_any (base g cap n : Nat) (a0 : List E) (w : World) (hr : Row w base g cap a0) (hl : a0.length = n) (h1 : 1 ≤ n) (hn : n ≤ 2000) :
    Calls Yba.prog 20 #[.slice (some ⟨g, 0, none⟩) n cap] w fun r w' => r = .returned (.tuple #[]) ∧ Row w' base g cap a0.reverse ∧ Kept w.heap.size (fun x => x = g) w w' := by
  go_enter Yba.func20, Yba.ntmps20
  go_wp2
  go_loopg [2, 3] n (fun gk i j wr => ∃ (k m : Nat) (a : List E), i = .int .i64 (k : Int) ∧ j = .int .i64 (m : Int) ∧ k + m + 1 = n ∧ k + gk = n ∧ Turned a0 a k ∧ k ≤ m + 1 ∧ Row wr base g cap a ∧ Kept w.heap.size (fun x => x = g) w wr)
  case atStart => exact ⟨0, n - 1, a0, rfl, by rw [show ((n - 1 : Nat) : Int) = (n : Int) - 1 by omega], by omega, by omega, turned_start a0, by omega, hr, Kept.refl _ _ _⟩
  case round =>
    obtain ⟨k, m, a, rfl, rfl, hkm, hkg, hT, hk1, hra, hKa⟩ := hrel
    have HKM : Hid (k + m + 1 = n ∧ k + gk = n) := ⟨hkm, hkg⟩
    have hla : a.length = n := hT.1.trans hl
    have hkn : k < n := by omega
    have hmn : m < n := by omega
    clear hkm hkg
    by_cases hlt : k < m
    · have ci0 := hra.c0 k (by omega)
      have ci1 := hra.c1 k (by omega)
      have cj0 := hra.c0 m (by omega)
      have cj1 := hra.c1 m (by omega)
      have fi0 := hra.free (k * 2)
      have fi1 := hra.free (k * 2 + 1)
      have fj0 := hra.free (m * 2)
      have fj1 := hra.free (m * 2 + 1)
      have n1 : k * 2 ≠ m * 2 := by omega
      have n2 : k * 2 ≠ m * 2 + 1 := by omega
      have n3 : k * 2 + 1 ≠ m * 2 := by omega
      have n4 : k * 2 + 1 ≠ m * 2 + 1 := by omega
      have n5 : m * 2 ≠ k * 2 := by omega
      have n6 : m * 2 ≠ k * 2 + 1 := by omega
      have n7 : m * 2 + 1 ≠ k * 2 := by omega
      have n8 : m * 2 + 1 ≠ k * 2 + 1 := by omega
      go_upto_region 3 with fail
      go_region
      go_wp2
      go_roundg (n - (k + 1))
      case measure => have := HKM.out; omega
      case rel =>
        have h2 := HKM.out
        refine ⟨k + 1, m - 1, (a.set k (a.getD m (0, 0))).set m (a.getD k (0, 0)), by go_num, by rw [show ((m - 1 : Nat) : Int) = (m : Int) - 1 by omega], by omega, by omega, turned_step a0 a k m hT hlt (by omega), by omega, ?_, ?_⟩
        · exact (hra.set k (a.getD m (0, 0)) (by omega)).set m (a.getD k (0, 0)) (by rw [List.length_set]; omega)
        · exact ((((hKa.setCell (x := ⟨g, k * 2, none⟩) (Or.inl rfl) _).setCell (x := ⟨g, k * 2 + 1, none⟩) (Or.inl rfl) _).setCell (x := ⟨g, m * 2, none⟩) (Or.inl rfl) _).setCell (x := ⟨g, m * 2 + 1, none⟩) (Or.inl rfl) _).drew
    · go_wp2
      go_end0
      have h2 := HKM.out
      exact ⟨rfl, by rw [← turned_end a0 a k m hT (by omega) (by omega)]; exact hra, hKa⟩
end Go.Proofs.Ybulkcfwe
