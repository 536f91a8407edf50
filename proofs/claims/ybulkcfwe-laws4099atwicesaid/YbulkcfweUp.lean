/-
  The contracts of (*ends).up, (*ends).down.
-/
import Derived.Test.YbulkcfweRow
namespace Go.Proofs.Ybulkcfwe
open Go.RowKit

set_option maxRecDepth 100000 in
set_option maxHeartbeats 2000000 in
theorem up_any (bh base g cap k0 n : Nat) (a0 : List E) (e : E) (w : World) (hc : w.cell? ⟨bh, 0, none⟩ = some (.slice (some ⟨g, 0, none⟩) n cap)) (hr : Row w base g cap a0) (hl : a0.length = n) (hk : k0 < n) (hn : n ≤ 2000) (hU : Up (a0.set k0 e) k0) :
    Calls Yba.prog 21 #[.pointer (some ⟨bh, 0, none⟩), .int .i64 (k0 : Int), .agg #[.int .i64 e.1, .int .i64 e.2]] w fun r w' => r = .returned (.tuple #[]) ∧ ∃ b : List E, b.length = n ∧ Row w' base g cap b ∧ b.Perm (a0.set k0 e) ∧ IsHeap b ∧ Kept w.heap.size (fun x => x = g) w w' := by
  have hbh : bh < w.heap.size := World.block_lt_of_cell? _ _ hc
  have hg := hr.lt
  obtain ⟨e1, e2⟩ := e
  go_enter Yba.func21, Yba.ntmps21
  go_upto_region 2 with fail
  have hr1 : Row (w.alloc (.cells #[.int .i64 e1, .int .i64 e2] 31)) base g cap a0 := hr.keep (Below.heap_alloc _ _ _ hg.2)
  have hx0 : Blk (w.alloc (.cells #[.int .i64 e1, .int .i64 e2] 31)) w.heap.size 31 [.int .i64 e1, .int .i64 e2] := Blk.made (w := w) (e := 31) #[.int .i64 e1, .int .i64 e2]
  have hK0 : Kept w.heap.size (fun x => x = g) w (w.alloc (.cells #[.int .i64 e1, .int .i64 e2] 31)) := (Kept.refl _ _ _).alloc (Nat.le_refl _) _
  clear hc hr
  generalize (w.alloc (.cells #[.int .i64 e1, .int .i64 e2] 31)) = w1 at *
  obtain ⟨bx, hbx⟩ : ∃ bx, bx = w.heap.size := ⟨_, rfl⟩
  rw [← hbx]
  rw [← hbx] at hx0
  have HB : Hid (bx = w.heap.size) := hbx
  have nbx : bx ≠ g := by omega
  clear hbx
  go_loopg [1] k0 (fun gk i wr => ∃ a : List E, i = .int .i64 (gk : Int) ∧ gk < n ∧ a.length = n ∧ Row wr base g cap a ∧ (a.set gk (e1, e2)).Perm (a0.set k0 (e1, e2)) ∧ Up (a.set gk (e1, e2)) gk ∧ Blk wr bx 31 [.int .i64 e1, .int .i64 e2] ∧ Kept w.heap.size (fun x => x = g) w wr)
  case atStart => exact ⟨a0, rfl, hk, hl, hr1, List.Perm.refl _, hU, hx0, hK0⟩
  case round =>
    obtain ⟨a, rfl, hkn, hla, hra, hp, hUa, hxa, hKa⟩ := hrel
    have x0 : wr.cell? ⟨bx, 0, none⟩ = some (.int .i64 e1) := (hxa.cell 0).trans rfl
    have x1 : wr.cell? ⟨bx, 1, none⟩ = some (.int .i64 e2) := (hxa.cell 1).trans rfl
    have ck0 := hra.c0 gk (by omega)
    have ck1 := hra.c1 gk (by omega)
    have fk0 := hra.free (gk * 2)
    have fk1 := hra.free (gk * 2 + 1)
    have hfin : ∀ d, IsHeap (a.set gk (e1, e2)) → ∃ b : List E, b.length = n ∧ Row (((wr.setCell ⟨g, gk * 2, none⟩ (.int .i64 e1)).setCell ⟨g, gk * 2 + 1, none⟩ (.int .i64 e2)).drewN d) base g cap b ∧ b.Perm (a0.set k0 (e1, e2)) ∧ IsHeap b ∧ Kept w.heap.size (fun x => x = g) w (((wr.setCell ⟨g, gk * 2, none⟩ (.int .i64 e1)).setCell ⟨g, gk * 2 + 1, none⟩ (.int .i64 e2)).drewN d) :=
      fun d hH => ⟨a.set gk (e1, e2), by rw [List.length_set]; exact hla, hra.set gk (e1, e2) (by omega), hp, hH, ((hKa.setCell (x := ⟨g, gk * 2, none⟩) (Or.inl rfl) _).setCell (x := ⟨g, gk * 2 + 1, none⟩) (Or.inl rfl) _).drewN d⟩
    by_cases h0 : gk = 0
    · subst h0
      have hH := up_end0 _ hUa
      go_wp2
      go_end0
      exact ⟨rfl, hfin 0 hH⟩
    · obtain ⟨p, hpk⟩ : ∃ p, p = (gk - 1) / 2 := ⟨_, rfl⟩
      have hpI : ((gk : Int) - 1) / 2 = (p : Int) := by omega
      have hpT : ((gk : Int) - 1).tdiv 2 = (p : Int) := by rw [Int.tdiv_eq_ediv_of_nonneg (by omega)]; exact hpI
      have hpn : p < n := by omega
      have hpg : p ≠ gk := by omega
      have cp0 := hra.c0 p (by omega)
      have cp1 := hra.c1 p (by omega)
      have HP : Hid (p = (gk - 1) / 2) := hpk
      clear hpk
      have hgk1 : 1 ≤ gk := by omega
      go_upto_region 4 with fail
      go_quiet (fail)
      go_upto_if 24 with fail
      by_cases hle : at' a p ≤ e1
      · have hH := up_end a gk p (e1, e2) (by omega) (by omega) HP.out hUa hle
        go_wp2
        go_end0
        exact ⟨rfl, hfin _ hH⟩
      · go_wp2
        go_roundg p
        case measure => omega
        case rel =>
          have hst := up_step a gk p (e1, e2) (by omega) (by omega) HP.out hUa (by show e1 < at' a p; omega)
          refine ⟨a.set gk (a.getD p (0, 0)), rfl, hpn, by rw [List.length_set]; exact hla, ?_, (perm_hole a gk p (e1, e2) (by omega) (by omega) (by omega)).trans hp, hst, ?_, ?_⟩
          · exact hra.set gk (a.getD p (0, 0)) (by omega)
          · exact (hxa.other (a := ⟨g, gk * 2, none⟩) nbx _).other (a := ⟨g, gk * 2 + 1, none⟩) nbx _
          · exact ((hKa.setCell (x := ⟨g, gk * 2, none⟩) (Or.inl rfl) _).setCell (x := ⟨g, gk * 2 + 1, none⟩) (Or.inl rfl) _).drewN _

/-- The earlier of k's children. -/
theorem least_child (a : List E) (k n : Nat) (hl : a.length = n) (h : 2 * k + 1 < n) : ∃ c, c < n ∧ (c = 2 * k + 1 ∨ c = 2 * k + 2) ∧ (∀ j, 0 < j → j < a.length → (j - 1) / 2 = k → at' a c ≤ at' a j) ∧
    ((c = 2 * k + 2 ∧ 2 * k + 2 < n ∧ at' a (2 * k + 1 + 1) < at' a (2 * k + 1)) ∨ (c = 2 * k + 1 ∧ (2 * k + 2 < n → at' a (2 * k + 1) ≤ at' a (2 * k + 1 + 1)))) := by
  by_cases h1 : 2 * k + 2 < n ∧ at' a (2 * k + 1 + 1) < at' a (2 * k + 1)
  · refine ⟨2 * k + 2, h1.1, Or.inr rfl, fun j h0 hj hjk => ?_, Or.inl ⟨rfl, h1.1, h1.2⟩⟩
    rcases (show j = 2 * k + 1 ∨ j = 2 * k + 2 by omega) with rfl | rfl
    · exact Int.le_of_lt h1.2
    · exact Int.le_refl _
  · refine ⟨2 * k + 1, h, Or.inl rfl, fun j h0 hj hjk => ?_, Or.inr ⟨rfl, fun h2 => by omega⟩⟩
    rcases (show j = 2 * k + 1 ∨ j = 2 * k + 2 by omega) with rfl | rfl
    · exact Int.le_refl _
    · show at' a (2 * k + 1) ≤ at' a (2 * k + 1 + 1)
      omega

set_option maxRecDepth 100000 in
set_option maxHeartbeats 2000000 in
theorem down_any (bh base g cap k0 n : Nat) (a0 : List E) (e : E) (w : World) (hc : w.cell? ⟨bh, 0, none⟩ = some (.slice (some ⟨g, 0, none⟩) n cap)) (hr : Row w base g cap a0) (hl : a0.length = n) (hk : k0 < n) (hn : n ≤ 2000) (hD : Down (a0.set k0 e) k0) :
    Calls Yba.prog 22 #[.pointer (some ⟨bh, 0, none⟩), .int .i64 (k0 : Int), .agg #[.int .i64 e.1, .int .i64 e.2]] w fun r w' => r = .returned (.tuple #[]) ∧ ∃ b : List E, b.length = n ∧ Row w' base g cap b ∧ b.Perm (a0.set k0 e) ∧ IsHeap b ∧ Kept w.heap.size (fun x => x = g) w w' := by
  have hbh : bh < w.heap.size := World.block_lt_of_cell? _ _ hc
  have hg := hr.lt
  obtain ⟨e1, e2⟩ := e
  go_enter Yba.func22, Yba.ntmps22
  go_upto_region 3 with fail
  have hr1 : Row (w.alloc (.cells #[.int .i64 e1, .int .i64 e2] 31)) base g cap a0 := hr.keep (Below.heap_alloc _ _ _ hg.2)
  have hx0 : Blk (w.alloc (.cells #[.int .i64 e1, .int .i64 e2] 31)) w.heap.size 31 [.int .i64 e1, .int .i64 e2] := Blk.made (w := w) (e := 31) #[.int .i64 e1, .int .i64 e2]
  have hK0 : Kept w.heap.size (fun x => x = g) w (w.alloc (.cells #[.int .i64 e1, .int .i64 e2] 31)) := (Kept.refl _ _ _).alloc (Nat.le_refl _) _
  clear hc hr
  generalize (w.alloc (.cells #[.int .i64 e1, .int .i64 e2] 31)) = w1 at *
  obtain ⟨bx, hbx⟩ : ∃ bx, bx = w.heap.size := ⟨_, rfl⟩
  rw [← hbx]
  rw [← hbx] at hx0
  have HB : Hid (bx = w.heap.size) := hbx
  have nbx : bx ≠ g := by omega
  clear hbx
  go_loopg [1] (n - k0) (fun gk i wr => ∃ (k : Nat) (a : List E), i = .int .i64 (k : Int) ∧ k + gk = n ∧ k < n ∧ a.length = n ∧ Row wr base g cap a ∧ (a.set k (e1, e2)).Perm (a0.set k0 (e1, e2)) ∧ Down (a.set k (e1, e2)) k ∧ Blk wr bx 31 [.int .i64 e1, .int .i64 e2] ∧ Kept w.heap.size (fun x => x = g) w wr)
  case atStart => exact ⟨k0, a0, rfl, by omega, hk, hl, hr1, List.Perm.refl _, hD, hx0, hK0⟩
  case round =>
    obtain ⟨k, a, rfl, hkg, hkn, hla, hra, hp, hDa, hxa, hKa⟩ := hrel
    have HKG : Hid (k + gk = n) := hkg
    clear hkg
    have x0 : wr.cell? ⟨bx, 0, none⟩ = some (.int .i64 e1) := (hxa.cell 0).trans rfl
    have x1 : wr.cell? ⟨bx, 1, none⟩ = some (.int .i64 e2) := (hxa.cell 1).trans rfl
    have ck0 := hra.c0 k (by omega)
    have ck1 := hra.c1 k (by omega)
    have fk0 := hra.free (k * 2)
    have fk1 := hra.free (k * 2 + 1)
    have hfin : ∀ d, IsHeap (a.set k (e1, e2)) → ∃ b : List E, b.length = n ∧ Row (((wr.setCell ⟨g, k * 2, none⟩ (.int .i64 e1)).setCell ⟨g, k * 2 + 1, none⟩ (.int .i64 e2)).drewN d) base g cap b ∧ b.Perm (a0.set k0 (e1, e2)) ∧ IsHeap b ∧ Kept w.heap.size (fun x => x = g) w (((wr.setCell ⟨g, k * 2, none⟩ (.int .i64 e1)).setCell ⟨g, k * 2 + 1, none⟩ (.int .i64 e2)).drewN d) :=
      fun d hH => ⟨a.set k (e1, e2), by rw [List.length_set]; exact hla, hra.set k (e1, e2) (by omega), hp, hH, ((hKa.setCell (x := ⟨g, k * 2, none⟩) (Or.inl rfl) _).setCell (x := ⟨g, k * 2 + 1, none⟩) (Or.inl rfl) _).drewN d⟩
    by_cases h1 : 2 * k + 1 < n
    · obtain ⟨c, hcn, hcc, hmin, hwhich⟩ := least_child a k n hla h1
      have cA := hra.c0 (2 * k + 1) (by omega)
      have HM : Hid ((c = 2 * k + 1 ∨ c = 2 * k + 2) ∧ (∀ j, 0 < j → j < a.length → (j - 1) / 2 = k → at' a c ≤ at' a j)) := ⟨hcc, hmin⟩
      have HW : Hid ((c = 2 * k + 2 ∧ 2 * k + 2 < n ∧ at' a (2 * k + 1 + 1) < at' a (2 * k + 1)) ∨ (c = 2 * k + 1 ∧ (2 * k + 2 < n → at' a (2 * k + 1) ≤ at' a (2 * k + 1 + 1)))) := hwhich
      clear hcc hmin hwhich
      obtain ⟨l1, hl1⟩ : ∃ l1, l1 = 2 * k + 1 := ⟨_, rfl⟩
      have hl1I : (2 : Int) * (k : Int) + 1 = (l1 : Int) := by omega
      rw [← hl1] at cA h1
      have HL : Hid (l1 = 2 * k + 1) := hl1
      clear hl1
      go_upto_region 5 with fail
      go_cut [38] from 15 to 38 (fun x wx => ∃ d, x = .bool (decide (c = l1 + 1)) ∧ wx = wr.drewN d)
      case first =>
        by_cases h2 : l1 + 1 < n
        · have cB := hra.c0 (l1 + 1) (by omega)
          have h2I : (l1 : Int) + 1 < (n : Int) := by omega
          have h2c : ((l1 : Int) + 1).toNat = l1 + 1 := by omega
          by_cases h3 : at' a (l1 + 1) < at' a l1
          · have hcv : decide (c = l1 + 1) = true := by
              have h4 := HW.out
              have h5 := HL.out
              subst h5
              simp
              omega
            go_quiet (fail)
            go_wp2
            go_meet
            case rel => exact ⟨_, by rw [hcv], rfl⟩
          · have hcv : decide (c = l1 + 1) = false := by
              have h4 := HW.out
              have h5 := HL.out
              subst h5
              simp
              omega
            have h3d : decide (at' a (l1 + 1) < at' a l1) = false := by simpa using h3
            go_quiet (fail)
            go_wp2
            go_meet
            case rel => exact ⟨_, by rw [hcv], rfl⟩
        · have hcv : decide (c = l1 + 1) = false := by
            have h4 := HW.out
            have h5 := HL.out
            subst h5
            simp
            omega
          have h2d : decide ((l1 : Int) + 1 < (n : Int)) = false := by simp; omega
          go_quiet (fail)
          go_wp2
          go_meet
          case rel => exact ⟨_, by rw [hcv], rfl⟩
      case rest =>
        obtain ⟨d, rfl, w2⟩ := hcut
        subst w2
        go_upto_if 38 with fail
        go_cut [8] from 38 to 40 (fun x wx => x = .int .i64 (c : Int) ∧ wr.drewN d = wx)
        case first =>
          by_cases hcl : c = l1 + 1
          · subst hcl
            go_wp2
            go_meet
            case rel => exact ⟨by go_num, rfl⟩
          · have hcl2 : c = l1 := by
              have h4 := HM.out.1
              have h5 := HL.out
              omega
            subst hcl2
            go_wp2
            go_meet
            case rel => exact ⟨rfl, rfl⟩
        case rest =>
          obtain ⟨rfl, w2⟩ := hcut
          subst w2
          have cc0 := hra.c0 c (by omega)
          have cc1 := hra.c1 c (by omega)
          have hck : c ≠ k := by have h4 := HM.out.1; omega
          have hckl : k < c := by have h4 := HM.out.1; omega
          go_upto_region 7 with fail
          go_quiet (fail)
          go_upto_if 48 with fail
          by_cases hle : e1 ≤ at' a c
          · have hH := down_end a k (e1, e2) (by omega) hDa (fun j h0 hj hjk => Int.le_trans hle (HM.out.2 j h0 hj hjk))
            go_wp2
            go_end0
            exact ⟨rfl, hfin _ hH⟩
          · go_wp2
            go_roundg (n - c)
            case measure => have := HKG.out; omega
            case rel =>
              have hst := down_step a k c (e1, e2) (by omega) HM.out.1 HM.out.2 hDa (by show at' a c < e1; omega)
              refine ⟨c, a.set k (a.getD c (0, 0)), rfl, by omega, hcn, by rw [List.length_set]; exact hla, ?_, (perm_hole a k c (e1, e2) (by omega) (by omega) (by omega)).trans hp, hst, ?_, ?_⟩
              · exact hra.set k (a.getD c (0, 0)) (by omega)
              · exact (hxa.other (a := ⟨g, k * 2, none⟩) nbx _).other (a := ⟨g, k * 2 + 1, none⟩) nbx _
              · exact ((hKa.setCell (x := ⟨g, k * 2, none⟩) (Or.inl rfl) _).setCell (x := ⟨g, k * 2 + 1, none⟩) (Or.inl rfl) _).drewN _
    · have hH := down_end a k (e1, e2) (by omega) hDa (fun j h0 hj hjk => by omega)
      go_wp2
      go_end0
      exact ⟨rfl, hfin 0 hH⟩
end Go.Proofs.Ybulkcfwe
