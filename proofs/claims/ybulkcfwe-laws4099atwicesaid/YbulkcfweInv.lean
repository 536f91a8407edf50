/-
  The contract of zzs4099ainv.
-/
import Derived.Test.YbulkcfweDrop
namespace Go.Proofs.Ybulkcfwe
open Go.RowKit

theorem Hs.shape {w : World} {bh base : Nat} {v : Value} {l : List E} {hp : Bool} (h : Hs w bh base v l hp) : ∃ ad cap, v = .slice ad l.length cap ∧ ((ad = none ∧ l.length = 0 ∧ cap = 0) ∨ ∃ g, ad = some ⟨g, 0, none⟩ ∧ Row w base g cap l) := by
  have hr0 := h.hr
  rcases hr0.2 with ⟨h1, h2⟩ | ⟨g, cap, cur, h1, _⟩
  · exact ⟨none, 0, by rw [h1, h2], Or.inl ⟨rfl, h2, rfl⟩⟩
  · subst h1
    exact ⟨some ⟨g, 0, none⟩, cap, rfl, Or.inr ⟨g, rfl, hr0⟩⟩

set_option maxRecDepth 100000 in
set_option maxHeartbeats 2000000 in
theorem inv_any (bh base : Nat) (v : Value) (l : List E) (hp : Bool) (w : World) (hH : Hs w bh base v l hp) (hI : Inv l hp) (hl : l.length ≤ 2000) :
    Calls Yba.prog 8 #[.pointer (some ⟨bh, 0, none⟩)] w fun r w' => r = .returned (.bool true) ∧ ∃ m, w' = w.drewN m := by
  obtain ⟨ad, cap, rfl, hsh⟩ := hH.shape
  have c0 : w.cell? ⟨bh, 0, none⟩ = some (.slice ad l.length cap) := (hH.hb.cell 0).trans rfl
  have c1 : w.cell? ⟨bh, 1, none⟩ = some (.bool hp) := (hH.hb.cell 1).trans rfl
  cases hp with
  | false =>
    have hD : Desc l := hI
    go_enter Yba.func8, Yba.ntmps8
    go_wp2
    go_loopg [4] l.length (fun gk i wr => ∃ k : Nat, (k + gk = l.length + 1 ∨ (l.length = 0 ∧ gk = 0)) ∧ 1 ≤ k ∧ i = .int .i64 (k : Int) ∧ k ≤ 2001 ∧ ∃ d, wr = w.drewN d)
    case atStart => exact ⟨1, by omega, by omega, rfl, by omega, 0, rfl⟩
    case round =>
      obtain ⟨k, hk, hk1, rfl, hkl, d, rfl⟩ := hrel
      have HK : Hid (k + gk = l.length + 1 ∨ (l.length = 0 ∧ gk = 0)) := hk
      clear hk
      by_cases hlt : k < l.length
      · rcases hsh with ⟨_, h0, _⟩ | ⟨g, rfl, hr⟩
        · omega
        · obtain ⟨p, hp⟩ : ∃ p, k = p + 1 := ⟨k - 1, by omega⟩
          subst hp
          have cp := hr.c0 p (by omega)
          have ck := hr.c0 (p + 1) hlt
          have hge := hD p hlt
          have hged : decide (at' l p < at' l (p + 1)) = false := by simp; omega
          have hwp : IntKind.i64.wrap (p : Int) = (p : Int) := by rw [IntKind.wrap_i64]; omega
          have hpI : (p : Int) < (l.length : Int) := by omega
          have hpI2 : (p : Int) + 1 < (l.length : Int) := by omega
          go_upto_region 6 with fail
          go_quiet (fail)
          go_wp2
          go_roundg (l.length + 1 - (p + 1 + 1))
          case measure => have := HK.out; omega
          case rel => exact ⟨p + 1 + 1, by omega, by omega, by go_num, by omega, _, rfl⟩
      · have hltd : decide ((k : Int) < (l.length : Int)) = false := by simp; omega
        go_wp2
        go_ret
        exact ⟨rfl, d, rfl⟩
  | true =>
    have hP : IsHeap l := hI.1
    have h32 : 32 < l.length := hI.2
    rcases hsh with ⟨_, h0, _⟩ | ⟨g, rfl, hr⟩
    · omega
    have hd32 : decide ((l.length : Int) ≤ 32) = false := by simp; omega
    go_enter Yba.func8, Yba.ntmps8
    go_wp2
    go_loopg [5] l.length (fun gk i wr => ∃ k : Nat, k + gk = l.length + 1 ∧ 1 ≤ k ∧ i = .int .i64 (k : Int) ∧ ∃ d, wr = w.drewN d)
    case atStart => exact ⟨1, by omega, by omega, rfl, 0, rfl⟩
    case round =>
      obtain ⟨k, hk, hk1, rfl, d, rfl⟩ := hrel
      have HK : Hid (k + gk = l.length + 1) := hk
      have hkl : k ≤ 2001 := by omega
      clear hk
      by_cases hlt : k < l.length
      · obtain ⟨p, hpk⟩ : ∃ p, p = (k - 1) / 2 := ⟨_, rfl⟩
        have hpI : ((k : Int) - 1) / 2 = (p : Int) := by omega
        have hpT : ((k : Int) - 1).tdiv 2 = (p : Int) := by rw [Int.tdiv_eq_ediv_of_nonneg (by omega)]; exact hpI
        have hpn : p < l.length := by omega
        have hge := hP k (by omega) hlt
        rw [← hpk] at hge
        have hged : decide (at' l k < at' l p) = false := by simp; omega
        have cp := hr.c0 p hpn
        have ck := hr.c0 k hlt
        have hpn2 : (p : Int) < (l.length : Int) := by omega
        have hkI : (k : Int) < (l.length : Int) := by omega
        clear hpk
        go_upto_region 14 with fail
        go_quiet (fail)
        go_wp2
        go_roundg (l.length + 1 - (k + 1))
        case measure => have := HK.out; omega
        case rel => exact ⟨k + 1, by omega, by omega, by go_num, _, rfl⟩
      · have hltd : decide ((k : Int) < (l.length : Int)) = false := by simp; omega
        go_wp2
        go_ret
        exact ⟨rfl, d, rfl⟩

#print axioms inv_any
end Go.Proofs.Ybulkcfwe
