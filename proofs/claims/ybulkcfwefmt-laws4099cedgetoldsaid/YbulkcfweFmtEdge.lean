import Derived.Test.YbulkcfweFmtAgrees
namespace Go.Proofs.YbulkcfweFmt
open Go.RowKit Go.Extern.Stop Go.Stop Go.Extern

theorem ends_edge (s d : Int) (h0 : 0 ≤ s) (h1 : s ≤ 1099511627776) : endsB s (2305843009213693952 - s + d) = decide (d ≤ 0) := by
  unfold endsB
  rw [IntWalk.wrap64_in _ ⟨by omega, by omega⟩]
  rw [Bool.eq_iff_iff]; simp; omega

set_option maxHeartbeats 1000000 in
theorem edge_out (a b c d e f g h s q : Int) (w : World) (hs : s < 0 ∨ 1099511627776 < s) :
    Calls Ybaf.prog 5 #[.agg #[.int .i64 a, .int .i64 b, .int .i64 c, .int .i64 d, .int .i64 e, .int .i64 f, .int .i64 g, .int .i64 h], .int .i64 s, .int .i8 q] w fun en w' => en = .returned (.bool true) ∧ Below w.heap.size w w' := by
  rcases hs with hs | hs
  · go_enter Ybaf.func5, Ybaf.ntmps5
    go_wp2
    go_ret
    exact ⟨rfl, (Below.refl _ _).alloc (Nat.le_refl _) _⟩
  · have hs' : ¬ s < 0 := by omega
    go_enter Ybaf.func5, Ybaf.ntmps5
    go_wp2
    go_ret
    exact ⟨rfl, (Below.refl _ _).alloc (Nat.le_refl _) _⟩

set_option maxHeartbeats 1000000 in
theorem edge_ok (a b c d e f g h s q : Int) (w : World) (h0 : 0 ≤ s) (h1 : s ≤ 1099511627776) (q0 : -128 ≤ q) (q1 : q ≤ 0) :
    Calls Ybaf.prog 5 #[.agg #[.int .i64 a, .int .i64 b, .int .i64 c, .int .i64 d, .int .i64 e, .int .i64 f, .int .i64 g, .int .i64 h], .int .i64 s, .int .i8 q] w fun en w' => en = .returned (.bool true) ∧ Below w.heap.size w w' := by
  have he : endsB s (2305843009213693952 - s + q) = true := by rw [ends_edge s q h0 h1]; simp [q1]
  go_enter Ybaf.func5, Ybaf.ntmps5
  go_wp2_with (first | (go_at_call 6; refine (job_any _ _ _ _ _ _ _ _ _).mono ?_; rintro en w1 ⟨rfl, hb1⟩) | (go_at_call 7; refine (check_ok _ _ _ _ he).mono ?_; rintro en w2 ⟨rfl, rfl⟩) | (go_at_call 9; refine (same_any _ _ _ _ _ _ _ _ _).mono ?_; rintro en w3 ⟨rfl, hb3⟩))
  go_ret
  exact ⟨rfl, chain_ok (n := 0) hb1 hb3⟩

set_option maxHeartbeats 1000000 in
theorem edge_late (F : Interp) (a b c d e f g h s q : Int) (w : World) (hF : F.answers w.tape) (h0 : 0 ≤ s) (h1 : s ≤ 1099511627776) (q0 : 0 < q) (q1 : q ≤ 127) :
    Calls Ybaf.prog 5 #[.agg #[.int .i64 a, .int .i64 b, .int .i64 c, .int .i64 d, .int .i64 e, .int .i64 f, .int .i64 g, .int .i64 h], .int .i64 s, .int .i8 q] w fun en w' => en = .returned (.bool true) ∧ Below w.heap.size w w' := by
  have he : endsB s (2305843009213693952 - s + q) = false := by rw [ends_edge s q h0 h1]; simp [q0]
  go_enter Ybaf.func5, Ybaf.ntmps5
  go_wp2_with (first | (go_at_call 6; refine (job_any _ _ _ _ _ _ _ _ _).mono ?_; rintro en w1 ⟨rfl, hb1⟩))
  refine (check_late F _ a b _ _ _ ?_ he ?_ ?_ ?_).mono ?_
  · show F.answers w1.tape; rw [hb1.tape]; exact hF
  · simp; omega
  · go_simp
  · go_simp
  rintro en w2 ⟨k, rfl, hb2⟩
  obtain ⟨hc1, hc2⟩ := cells_kept hb2
  go_wp2_with (go_at_call 9; refine (same_any _ _ _ _ _ _ _ _ _).mono ?_; rintro en w3 ⟨rfl, hb3⟩)
  go_ret
  exact ⟨rfl, chain_late (n := 0) hb1 hb2 hb3⟩

end Go.Proofs.YbulkcfweFmt
