/-
  The library's Equal and Clone at this program's instances.
-/
import Derived.Test.YbulkcgeuRows
import Derived.Test.YbulkcgeuMix
import Derived.Deep.QuietTactic
import Derived.Deep.LoopGhost
import Derived.Deep.DeepCutAuto
import Derived.BigQuiet
namespace Go.Proofs.Ybulkcgeu
open Go.RowKit

set_option maxHeartbeats 400000 in
theorem equal_int (f : Nat → Int) (a1 a2 : Option Addr) (b1 b2 n c1 c2 : Nat) (w : World) (h1 : 0 < n → a1 = some ⟨b1, 0, none⟩) (h2 : 0 < n → a2 = some ⟨b2, 0, none⟩) (hn : n ≤ 2000)
    (k1 : ∀ j, j < n → w.cell? ⟨b1, j, none⟩ = some (.int .i64 (f j))) (k2 : ∀ j, j < n → w.cell? ⟨b2, j, none⟩ = some (.int .i64 (f j))) :
    Calls Yba.prog 7 #[.slice a1 n c1, .slice a2 n c2] w fun e w' => e = .returned (.bool true) ∧ ∃ m, w' = w.drewN m := by
  go_enter Yba.func7, Yba.ntmps7
  go_wp2
  go_loopg [13] n (fun gk i wr => ∃ k : Nat, k + gk = n ∧ i = .int .i64 (k : Int) ∧ ∃ d, wr = w.drewN d)
  case atStart => exact ⟨0, by omega, rfl, 0, rfl⟩
  case round =>
    obtain ⟨k, hk, rfl, d, rfl⟩ := hrel
    have HK : Hid (k + gk = n) := hk
    have hkl : k ≤ n := by omega
    clear hk
    by_cases hlt : k < n
    · have e1 := h1 (by omega)
      have e2 := h2 (by omega)
      clear h1 h2
      subst e1 e2
      have q1 := k1 k hlt
      have q2 := k2 k hlt
      clear k1 k2
      go_wp2
      go_quiet (fail)
      go_wp2
      go_roundg (n - (k + 1))
      case measure => have := HK.out; omega
      case rel => exact ⟨k + 1, by omega, by go_num, _, rfl⟩
    · clear h1 h2 k1 k2
      go_wp2
      go_ret
      exact ⟨rfl, d, rfl⟩

set_option maxHeartbeats 400000 in
theorem equal_bool (f : Nat → Bool) (a1 a2 : Option Addr) (b1 b2 n c1 c2 : Nat) (w : World) (h1 : 0 < n → a1 = some ⟨b1, 0, none⟩) (h2 : 0 < n → a2 = some ⟨b2, 0, none⟩) (hn : n ≤ 2000)
    (k1 : ∀ j, j < n → w.cell? ⟨b1, j, none⟩ = some (.bool (f j))) (k2 : ∀ j, j < n → w.cell? ⟨b2, j, none⟩ = some (.bool (f j))) :
    Calls Yba.prog 8 #[.slice a1 n c1, .slice a2 n c2] w fun e w' => e = .returned (.bool true) ∧ ∃ m, w' = w.drewN m := by
  go_enter Yba.func8, Yba.ntmps8
  go_wp2
  go_loopg [13] n (fun gk i wr => ∃ k : Nat, k + gk = n ∧ i = .int .i64 (k : Int) ∧ ∃ d, wr = w.drewN d)
  case atStart => exact ⟨0, by omega, rfl, 0, rfl⟩
  case round =>
    obtain ⟨k, hk, rfl, d, rfl⟩ := hrel
    have HK : Hid (k + gk = n) := hk
    have hkl : k ≤ n := by omega
    clear hk
    by_cases hlt : k < n
    · have e1 := h1 (by omega)
      have e2 := h2 (by omega)
      clear h1 h2
      subst e1 e2
      have q1 := k1 k hlt
      have q2 := k2 k hlt
      clear k1 k2
      go_wp2
      go_quiet (fail)
      go_wp2
      go_roundg (n - (k + 1))
      case measure => have := HK.out; omega
      case rel => exact ⟨k + 1, by omega, by go_num, _, rfl⟩
    · clear h1 h2 k1 k2
      go_wp2
      go_ret
      exact ⟨rfl, d, rfl⟩

set_option maxHeartbeats 400000 in
theorem equal_i32 (f : Nat → Int) (a1 a2 : Option Addr) (b1 b2 n c1 c2 : Nat) (w : World) (h1 : 0 < n → a1 = some ⟨b1, 0, none⟩) (h2 : 0 < n → a2 = some ⟨b2, 0, none⟩) (hn : n ≤ 2000)
    (k1 : ∀ j, j < n → w.cell? ⟨b1, j, none⟩ = some (.int .i32 (f j))) (k2 : ∀ j, j < n → w.cell? ⟨b2, j, none⟩ = some (.int .i32 (f j))) :
    Calls Yba.prog 9 #[.slice a1 n c1, .slice a2 n c2] w fun e w' => e = .returned (.bool true) ∧ ∃ m, w' = w.drewN m := by
  go_enter Yba.func9, Yba.ntmps9
  go_wp2
  go_loopg [13] n (fun gk i wr => ∃ k : Nat, k + gk = n ∧ i = .int .i64 (k : Int) ∧ ∃ d, wr = w.drewN d)
  case atStart => exact ⟨0, by omega, rfl, 0, rfl⟩
  case round =>
    obtain ⟨k, hk, rfl, d, rfl⟩ := hrel
    have HK : Hid (k + gk = n) := hk
    have hkl : k ≤ n := by omega
    clear hk
    by_cases hlt : k < n
    · have e1 := h1 (by omega)
      have e2 := h2 (by omega)
      clear h1 h2
      subst e1 e2
      have q1 := k1 k hlt
      have q2 := k2 k hlt
      clear k1 k2
      go_wp2
      go_quiet (fail)
      go_wp2
      go_roundg (n - (k + 1))
      case measure => have := HK.out; omega
      case rel => exact ⟨k + 1, by omega, by go_num, _, rfl⟩
    · clear h1 h2 k1 k2
      go_wp2
      go_ret
      exact ⟨rfl, d, rfl⟩

set_option maxHeartbeats 400000 in
theorem equal_span (v : Nat → Int) (ok : Nat → Bool) (c : Nat → Int) (a1 a2 : Option Addr) (b1 b2 n c1 c2 : Nat) (w : World) (h1 : 0 < n → a1 = some ⟨b1, 0, none⟩) (h2 : 0 < n → a2 = some ⟨b2, 0, none⟩) (hn : n ≤ 2000)
    (k1 : ∀ j, j < n → w.cell? ⟨b1, j * 3, none⟩ = some (.int .i64 (v j)) ∧ w.cell? ⟨b1, j * 3 + 1, none⟩ = some (.bool (ok j)) ∧ w.cell? ⟨b1, j * 3 + 2, none⟩ = some (.int .i64 (c j)))
    (k2 : ∀ j, j < n → w.cell? ⟨b2, j * 3, none⟩ = some (.int .i64 (v j)) ∧ w.cell? ⟨b2, j * 3 + 1, none⟩ = some (.bool (ok j)) ∧ w.cell? ⟨b2, j * 3 + 2, none⟩ = some (.int .i64 (c j))) :
    Calls Yba.prog 10 #[.slice a1 n c1, .slice a2 n c2] w fun e w' => e = .returned (.bool true) ∧ ∃ m, w' = w.drewN m := by
  go_enter Yba.func10, Yba.ntmps10
  go_wp2
  go_loopg [13] n (fun gk i wr => ∃ k : Nat, k + gk = n ∧ i = .int .i64 (k : Int) ∧ ∃ d, wr = w.drewN d)
  case atStart => exact ⟨0, by omega, rfl, 0, rfl⟩
  case round =>
    obtain ⟨k, hk, rfl, d, rfl⟩ := hrel
    have HK : Hid (k + gk = n) := hk
    have hkl : k ≤ n := by omega
    clear hk
    by_cases hlt : k < n
    · have e1 := h1 (by omega)
      have e2 := h2 (by omega)
      clear h1 h2
      subst e1 e2
      obtain ⟨q1, q1', q1''⟩ := k1 k hlt
      obtain ⟨q2, q2', q2''⟩ := k2 k hlt
      clear k1 k2
      go_wp2
      go_quiet (fail)
      go_wp2
      go_roundg (n - (k + 1))
      case measure => have := HK.out; omega
      case rel => exact ⟨k + 1, by omega, by go_num, _, rfl⟩
    · clear h1 h2 k1 k2
      go_wp2
      go_ret
      exact ⟨rfl, d, rfl⟩

theorem info21 : (Yba.prog.info? 21).map (fun i => (i.zero, i.size, i.bytes)) = some (some (.int .i32 0), 1, 4) := by kernel_rfl
theorem info38 : (Yba.prog.info? 38).map (fun i => (i.zero, i.size, i.bytes)) = some (some (.agg #[.int .i64 0, .bool false, .int .i64 0]), 3, 24) := by kernel_rfl

set_option maxHeartbeats 400000 in
theorem clone_i32 (xs : List Value) (b n cap : Nat) (w : World) (hx : xs.length = n) (hn : n ≤ 2000) (hb : b < w.heap.size) (hc : ∀ j u, xs[j]? = some u → w.cell? ⟨b, j, none⟩ = some u) (h1 : ∀ u ∈ xs, u.oneCell' = true) :
    Calls Yba.prog 4 #[.slice (some ⟨b, 0, none⟩) n cap] w fun e w' => ∃ g cap', e = .returned (.slice (some ⟨g, 0, none⟩) n cap') ∧ w'.ownsRow w.heap.size 21 1 (.slice (some ⟨g, 0, none⟩) n cap') n xs ∧ Below w.heap.size w w' := by
  obtain ⟨i0, hi, hz0, hz1, hz2⟩ := info_parts info21
  have hnil := fun (w : World) (a : Option Addr) (n c : Nat) => Lib.run_eql_slice_nil (P := Yba.prog) w 31 21 a n c 0 0 Yba.underlying31
  have hown0 : (w.alloc (.cells #[] 21)).ownsRow w.heap.size 21 1 (.slice (some ⟨w.heap.size, 0, none⟩) 0 0) 0 [] := ⟨rfl, Or.inr ⟨w.heap.size, 0, #[], rfl, Nat.le_refl _, heap_alloc_new w _, Nat.le_refl _, by unfold maxLen; omega, rfl, rfl⟩⟩
  have hcc : ∀ j u, xs[j]? = some u → (w.alloc (.cells #[] 21)).cell? ((⟨b, 0, none⟩ : Addr).add j) = some u := by
    intro j u hj
    rw [show ((⟨b, 0, none⟩ : Addr).add j) = ⟨b, j, none⟩ from by unfold Addr.add; split <;> simp_all]
    have hbl := (Below.refl w.heap.size w).alloc (Nat.le_refl _) (.cells #[] 21)
    rw [hbl.cell (p := ⟨b, j, none⟩) hb]
    exact hc j u hj
  go_enter Yba.func4, Yba.ntmps4
  go_wp2_with (at_builtin; refine wpList_append_own _ rfl (.tmp 5) (.tmp 6) 31 rfl w.heap.size 21 i0 _ 1 4 Yba.underlying31 hi hz0 hz1 hz2 rfl (by decide) _ 0 [] rfl hown0 ⟨b, 0, none⟩ n cap xs rfl (by omega) hcc h1 (by unfold maxLen; omega) (by omega) (by simp) ?_)
  intro v' w1 hown' hgrow hne
  obtain ⟨g, cap', hv⟩ : ∃ g cap', v' = .slice (some ⟨g, 0, none⟩) n cap' := by
    rcases hown'.2 with ⟨h, _⟩ | ⟨g, cap', _, hv, _⟩
    · exact absurd h hne
    · exact ⟨g, cap', hv⟩
  rw [hv]
  rw [hv] at hown'
  clear hv hne hnil hc hcc
  go_wp2
  go_ret
  exact ⟨g, cap', rfl, hown', ((Below.refl _ _).alloc (Nat.le_refl _) _).grown hgrow (by simp) (fun k hk => by simp [Value.ownBlock] at hk; omega)⟩

set_option maxHeartbeats 400000 in
theorem clone_span (xs : List Value) (b n cap : Nat) (w : World) (hx : xs.length = n * 3) (hn : n ≤ 2000) (hb : b < w.heap.size) (hc : ∀ j u, xs[j]? = some u → w.cell? ⟨b, j, none⟩ = some u) (h1 : ∀ u ∈ xs, u.oneCell' = true) :
    Calls Yba.prog 5 #[.slice (some ⟨b, 0, none⟩) n cap] w fun e w' => ∃ g cap', e = .returned (.slice (some ⟨g, 0, none⟩) n cap') ∧ w'.ownsRow w.heap.size 38 3 (.slice (some ⟨g, 0, none⟩) n cap') n xs ∧ Below w.heap.size w w' := by
  obtain ⟨i0, hi, hz0, hz1, hz2⟩ := info_parts info38
  have hnil := fun (w : World) (a : Option Addr) (n c : Nat) => Lib.run_eql_slice_nil (P := Yba.prog) w 30 38 a n c 0 0 Yba.underlying30
  have hown0 : (w.alloc (.cells #[] 38)).ownsRow w.heap.size 38 3 (.slice (some ⟨w.heap.size, 0, none⟩) 0 0) 0 [] := ⟨rfl, Or.inr ⟨w.heap.size, 0, #[], rfl, Nat.le_refl _, heap_alloc_new w _, Nat.le_refl _, by unfold maxLen; omega, rfl, rfl⟩⟩
  have hcc : ∀ j u, xs[j]? = some u → (w.alloc (.cells #[] 38)).cell? ((⟨b, 0, none⟩ : Addr).add j) = some u := by
    intro j u hj
    rw [show ((⟨b, 0, none⟩ : Addr).add j) = ⟨b, j, none⟩ from by unfold Addr.add; split <;> simp_all]
    have hbl := (Below.refl w.heap.size w).alloc (Nat.le_refl _) (.cells #[] 38)
    rw [hbl.cell (p := ⟨b, j, none⟩) hb]
    exact hc j u hj
  go_enter Yba.func5, Yba.ntmps5
  go_wp2_with (at_builtin; refine wpList_append_own _ rfl (.tmp 5) (.tmp 6) 30 rfl w.heap.size 38 i0 _ 3 24 Yba.underlying30 hi hz0 hz1 hz2 rfl (by decide) _ 0 [] rfl hown0 ⟨b, 0, none⟩ n cap xs rfl (by omega) hcc h1 (by unfold maxLen; omega) (by omega) (by simp) ?_)
  intro v' w1 hown' hgrow hne
  obtain ⟨g, cap', hv⟩ : ∃ g cap', v' = .slice (some ⟨g, 0, none⟩) n cap' := by
    rcases hown'.2 with ⟨h, _⟩ | ⟨g, cap', _, hv, _⟩
    · exact absurd h hne
    · exact ⟨g, cap', hv⟩
  rw [hv]
  rw [hv] at hown'
  clear hv hne hnil hc hcc
  go_wp2
  go_ret
  exact ⟨g, cap', rfl, hown', ((Below.refl _ _).alloc (Nat.le_refl _) _).grown hgrow (by simp) (fun k hk => by simp [Value.ownBlock] at hk; omega)⟩

end Go.Proofs.Ybulkcgeu
