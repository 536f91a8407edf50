import Derived.Test.YbulkcfweFmtErrorf
namespace Go.Proofs.YbulkcfweFmt
open Go.RowKit Go.Extern.Stop Go.Stop Go.Extern

/-- Two new blocks of the call's own, and a callee behind them that keeps what was there: their cells. -/
theorem cells_kept {w1 w2 : World} {x y : Obj} (hb : Below ((w1.alloc x).alloc y).heap.size ((w1.alloc x).alloc y) w2) :
    (∀ o, w2.cell? ⟨w1.heap.size, o, none⟩ = ((w1.alloc x).alloc y).cell? ⟨w1.heap.size, o, none⟩) ∧ (∀ o, w2.cell? ⟨w1.heap.size + 1, o, none⟩ = ((w1.alloc x).alloc y).cell? ⟨w1.heap.size + 1, o, none⟩) :=
  ⟨fun o => hb.cell (p := ⟨w1.heap.size, o, none⟩) (by simp; omega), fun o => hb.cell (p := ⟨w1.heap.size + 1, o, none⟩) (by simp)⟩

theorem chain_ok {w w1 w3 : World} {x y z : Obj} {n : Nat} (hb1 : Below (w.alloc z).heap.size (w.alloc z) w1) (hb3 : Below (((w1.alloc x).alloc y).drewN n).heap.size (((w1.alloc x).alloc y).drewN n) w3) : Below w.heap.size w w3 := by
  have s1 : w.heap.size + 1 ≤ w1.heap.size := by have := hb1.size; simp at this; omega
  have k1 : Below w.heap.size w w1 := ((Below.refl _ _).alloc (Nat.le_refl _) _).trans (hb1.mono (by simp))
  exact (below_drewN ((k1.alloc (by omega) x).alloc (by simp; omega) y) n).trans (hb3.mono (by simp; omega))

theorem chain_late {w w1 w2 w3 : World} {x y z : Obj} {n : Nat} (hb1 : Below (w.alloc z).heap.size (w.alloc z) w1) (hb2 : Below ((w1.alloc x).alloc y).heap.size ((w1.alloc x).alloc y) w2) (hb3 : Below (w2.drewN n).heap.size (w2.drewN n) w3) : Below w.heap.size w w3 := by
  have s1 : w.heap.size + 1 ≤ w1.heap.size := by have := hb1.size; simp at this; omega
  have s2 : w1.heap.size + 1 + 1 ≤ w2.heap.size := by have := hb2.size; simp at this; omega
  have k1 : Below w.heap.size w w1 := ((Below.refl _ _).alloc (Nat.le_refl _) _).trans (hb1.mono (by simp))
  have k2 : Below w.heap.size w w2 := ((k1.alloc (by omega) x).alloc (by simp; omega) y).trans (hb2.mono (by simp; omega))
  exact (below_drewN k2 n).trans (hb3.mono (by simp; omega))

set_option maxHeartbeats 1000000 in
theorem agrees_ok (a b c d e f g h s r : Int) (w : World) (he : endsB s r = true) :
    Calls Ybaf.prog 3 #[.agg #[.int .i64 a, .int .i64 b, .int .i64 c, .int .i64 d, .int .i64 e, .int .i64 f, .int .i64 g, .int .i64 h], .int .i64 s, .int .i64 r] w fun en w' => en = .returned (.bool true) ∧ Below w.heap.size w w' := by
  go_enter Ybaf.func3, Ybaf.ntmps3
  go_wp2_with (first | (go_at_call 6; refine (job_any _ _ _ _ _ _ _ _ _).mono ?_; rintro en w1 ⟨rfl, hb1⟩) | (go_at_call 7; refine (check_ok _ _ _ _ he).mono ?_; rintro en w2 ⟨rfl, rfl⟩))
  go_quiet ((go_at_call 8; exact Calls.quiet_of_same (ends_any _ _ _)))
  go_wp2_with (go_at_call 9; refine (same_any _ _ _ _ _ _ _ _ _).mono ?_; rintro en w3 ⟨rfl, hb3⟩)
  go_ret
  exact ⟨rfl, chain_ok hb1 hb3⟩

set_option maxHeartbeats 1000000 in
theorem agrees_late (F : Interp) (a b c d e f g h s r : Int) (w : World) (hF : F.answers w.tape) (he : endsB s r = false) :
    Calls Ybaf.prog 3 #[.agg #[.int .i64 a, .int .i64 b, .int .i64 c, .int .i64 d, .int .i64 e, .int .i64 f, .int .i64 g, .int .i64 h], .int .i64 s, .int .i64 r] w fun en w' => en = .returned (.bool true) ∧ Below w.heap.size w w' := by
  go_enter Ybaf.func3, Ybaf.ntmps3
  go_wp2_with (first | (go_at_call 6; refine (job_any _ _ _ _ _ _ _ _ _).mono ?_; rintro en w1 ⟨rfl, hb1⟩))
  refine (check_late F _ a b _ _ _ ?_ he ?_ ?_ ?_).mono ?_
  · show F.answers w1.tape; rw [hb1.tape]; exact hF
  · simp; omega
  · go_simp
  · go_simp
  rintro en w2 ⟨k, rfl, hb2⟩
  obtain ⟨hc1, hc2⟩ := cells_kept hb2
  go_wp2_with fail
  go_quiet ((go_at_call 8; exact Calls.quiet_of_same (ends_any _ _ _)))
  go_wp2_with (go_at_call 9; refine (same_any _ _ _ _ _ _ _ _ _).mono ?_; rintro en w3 ⟨rfl, hb3⟩)
  go_ret
  exact ⟨rfl, chain_late hb1 hb2 hb3⟩
end Go.Proofs.YbulkcfweFmt
