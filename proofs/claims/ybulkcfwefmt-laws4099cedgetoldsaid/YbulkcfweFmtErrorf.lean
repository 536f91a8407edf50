/-
  The contracts of the small functions on the road: fmt.Errorf at this format, EndsInTime, zzs4099cjob, zzs4099csame.
-/
import Derived.Test.YbulkcfweFmtFacts
import Derived.Deep.RegionWith
import Derived.Deep.QuietTactic
import Derived.BigQuiet
namespace Go.Proofs.YbulkcfweFmt
open Go.RowKit Go.Extern.Stop Go.Stop Go.Extern

set_option maxHeartbeats 400000 in
theorem errorf_any (F : Interp) (a b c : Int) (blk : Nat) (w : World) (hF : F.answers w.tape)
    (hc0 : w.cell? ⟨blk, 0, none⟩ = some (.iface 3 (.int .i64 a))) (hc1 : w.cell? ⟨blk, 1, none⟩ = some (.iface 2 (.int .i64 b))) (hc2 : w.cell? ⟨blk, 2, none⟩ = some (.iface 2 (.int .i64 c))) :
    Calls Ybaf.prog 10 #[.string ⟨#[108, 105, 110, 101, 32, 37, 100, 58, 32, 106, 111, 98, 32, 37, 100, 32, 119, 111, 117, 108, 100, 32, 101, 110, 100, 32, 97, 102, 116, 101, 114, 32, 115, 101, 99, 111, 110, 100, 32, 37, 100]⟩, .slice (some ⟨blk, 0, none⟩) 3 3] w fun e w' =>
      e = .returned (.iface 39 (.pointer (some ⟨w.heap.size, 0, none⟩))) ∧ Below w.heap.size w w' := by
  have hF' := answers_open hF
  go_enter Ybaf.func10, Ybaf.ntmps10
  go_wp2
  go_ret
  exact ⟨rfl, ((Below.refl _ _).alloc (Nat.le_refl _) _).drew⟩

/-- What EndsInTime answers. -/
def endsB (s r : Int) : Bool := decide (r ≤ wrap64 (2305843009213693952 - s))

set_option maxHeartbeats 400000 in
theorem ends_any (s r : Int) (w : World) :
    Calls Ybaf.prog 8 #[.int .i64 s, .int .i64 r] w fun e w' => e = .returned (.bool (endsB s r)) ∧ w' = w := by
  go_enter Ybaf.func8, Ybaf.ntmps8
  go_wp2
  go_ret
  exact ⟨rfl, rfl⟩

set_option maxHeartbeats 400000 in
theorem job_any (a b c d e f g h : Int) (w : World) :
    Calls Ybaf.prog 6 #[.agg #[.int .i64 a, .int .i64 b, .int .i64 c, .int .i64 d, .int .i64 e, .int .i64 f, .int .i64 g, .int .i64 h]] w fun en w' => en = .returned (.agg #[.int .i64 a, .int .i64 b, .int .i64 c, .int .i64 d, .int .i64 e, .int .i64 f, .int .i64 g, .int .i64 h]) ∧ Below w.heap.size w w' := by
  go_enter Ybaf.func6, Ybaf.ntmps6
  go_wp2
  exact bodyPost_ret (v := .agg #[.int .i64 a, .int .i64 b, .int .i64 c, .int .i64 d, .int .i64 e, .int .i64 f, .int .i64 g, .int .i64 h]) (by simp [results, Ybaf.results6, go_sem]) rfl ⟨rfl, ((Below.refl _ _).alloc (Nat.le_refl _) _).alloc (by simp) _⟩

set_option maxHeartbeats 400000 in
theorem same_any (a b c d e f g h : Int) (w : World) :
    Calls Ybaf.prog 9 #[.agg #[.int .i64 a, .int .i64 b, .int .i64 c, .int .i64 d, .int .i64 e, .int .i64 f, .int .i64 g, .int .i64 h], .agg #[.int .i64 a, .int .i64 b, .int .i64 c, .int .i64 d, .int .i64 e, .int .i64 f, .int .i64 g, .int .i64 h]] w fun en w' => en = .returned (.bool true) ∧ Below w.heap.size w w' := by
  go_enter Ybaf.func9, Ybaf.ntmps9
  go_wp2
  go_ret
  exact ⟨rfl, ((Below.refl _ _).alloc (Nat.le_refl _) _).alloc (by simp) _⟩

set_option maxHeartbeats 400000 in
theorem check_ok (b : Nat) (s r : Int) (w : World) (he : endsB s r = true) :
    Calls Ybaf.prog 7 #[.pointer (some ⟨b, 0, none⟩), .int .i64 s, .int .i64 r] w fun en w' => en = .returned .nilIface ∧ w' = w := by
  go_enter Ybaf.func7, Ybaf.ntmps7
  go_wp2_with (go_at_call 8; refine (ends_any _ _ _).mono ?_; rintro e w' ⟨rfl, rfl⟩)
  go_ret
  exact ⟨rfl, rfl⟩

set_option maxHeartbeats 1000000 in
theorem check_late (F : Interp) (b : Nat) (x y : Int) (s r : Int) (w : World) (hF : F.answers w.tape) (he : endsB s r = false) (hb : b < w.heap.size)
    (hc0 : w.cell? ⟨b, 0, none⟩ = some (.int .i64 x)) (hc1 : w.cell? ⟨b, 1, none⟩ = some (.int .i64 y)) :
    Calls Ybaf.prog 7 #[.pointer (some ⟨b, 0, none⟩), .int .i64 s, .int .i64 r] w fun en w' => ∃ k, en = .returned (.iface 39 (.pointer (some ⟨k, 0, none⟩))) ∧ Below w.heap.size w w' := by
  go_enter Ybaf.func7, Ybaf.ntmps7
  go_wp2_with (go_at_call 8; refine (ends_any _ _ _).mono ?_; rintro e w' ⟨rfl, rfl⟩)
  go_region_with (go_at_call 10; refine (errorf_any F x y 2305843009213693952 _ _ (by exact hF) (by go_simp) (by go_simp) (by go_simp)).mono ?_; rintro e w' ⟨rfl, hbel⟩)
  all_goals
    go_wp2
    go_ret
    exact ⟨_, rfl, (((Below.refl _ _).alloc (Nat.le_refl _) _).drew).trans (hbel.mono (by simp))⟩

end Go.Proofs.YbulkcfweFmt
