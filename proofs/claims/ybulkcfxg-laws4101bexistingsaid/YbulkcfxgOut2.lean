/-
  outbound's contract once more, the row of ends lying anywhere among the call's own blocks.
-/
import Derived.Test.YbulkcfxgOut
namespace Go.Proofs.Ybulkcfxg
open Go.RowKit

set_option maxHeartbeats 1000000 in
theorem out_new2 (w : World) (base bc bp np id n : Nat) (xs C P : List Value) (v : Value) (hid : id < np) (_hnp : np ≤ 2000) (hn : n ≤ 2000)
    (hbc : Blk w bc 45 C) (hbp : Blk w bp 57 P) (hC10 : C[10]? = some (.slice (some ⟨bp, 0, none⟩) np np)) (hC15 : C[15]? = some v) (hP : P[id * 6 + 5]? = some (.int .u32 0))
    (hown : w.ownsRow base 53 6 v n xs) (hvc : v.ownBlock ≠ some bc) (hvp : v.ownBlock ≠ some bp) (hne : bc ≠ bp) (hbase : base ≤ w.heap.size) :
    Calls Yba.prog 5 #[.pointer (some ⟨bc, 0, none⟩), .int .u32 (id : Int)] w fun e w' => ∃ g cap, e = .returned (.pointer (some ⟨g, n * 6, none⟩)) ∧ base ≤ g ∧ g ≠ bc ∧ g ≠ bp ∧
      w'.ownsRow base 53 6 (.slice (some ⟨g, 0, none⟩) (n + 1) cap) (n + 1) (xs ++ out6 0) ∧ Blk w' bc 45 (C.set 15 (.slice (some ⟨g, 0, none⟩) (n + 1) cap)) ∧
      Blk w' bp 57 (P.set (id * 6 + 5) (.int .u32 ((n + 1 : Nat) : Int))) ∧ Kept w.heap.size (fun k => k = bc ∨ k = bp ∨ v.ownBlock = some k) w w' := by
  obtain ⟨i0, hi, hz0, hz1, hz2⟩ := info_parts info53
  have hc10 := (hbc.cell 10).trans hC10
  have hc15 := (hbc.cell 15).trans hC15
  have hp5 := (hbp.cell (id * 6 + 5)).trans hP
  go_enter Yba.func5, Yba.ntmps5
  go_wp2_with (at_builtin; refine wpList_append_own _ rfl (.tmp 21) (.tmp 23) 38 rfl base 53 i0 _ 6 24 Yba.underlying38 hi hz0 hz1 hz2 rfl (by decide) _ _ _ rfl (hown.alloc _) ⟨w.heap.size, 0, none⟩ 1 1 (out6 0) rfl rfl ?c1 ?c2 ?c3 ?c4 ?c5 ?c6)
  case c1 => exact out6_cells w
  case c2 => exact out6_one 0
  case c3 => unfold maxLen; omega
  case c4 => omega
  case c5 => simp; omega
  case c6 =>
    intro v' w1 hown' hgrow _
    obtain ⟨g, cap, hv⟩ : ∃ g cap, v' = .slice (some ⟨g, 0, none⟩) (n + 1) cap := by
      rcases hown'.2 with ⟨_, h0⟩ | ⟨g, cap, _, hv, _⟩
      · omega
      · exact ⟨g, cap, hv⟩
    rw [hv]
    rw [hv] at hown'
    have hg : base ≤ g := (hown'.lt g rfl).1
    have hb1c : Blk w1 bc 45 C := (hbc.alloc _).grown hgrow (fun e => hvc e.symm)
    have hb1p : Blk w1 bp 57 P := (hbp.alloc _).grown hgrow (fun e => hvp e.symm)
    have hK1 : Kept w.heap.size (fun k => k = bc ∨ k = bp ∨ v.ownBlock = some k) w w1 := ((Kept.refl _ _ _).alloc (Nat.le_refl _) _).trans ⟨hgrow.os, hgrow.tape, hgrow.output, hgrow.size, fun k hk hp => hgrow.block k (by simp; omega) (fun e => hp (Or.inr (Or.inr e.symm)))⟩
    have hgt : ∃ cur, w1.heap[g]? = some (.cells cur 53 (0, 0)) := by
      rcases hown'.2 with ⟨h, _⟩ | ⟨g', cap', cur, h, _, hh, _⟩
      · simp at h
      · simp only [Value.slice.injEq, Option.some.injEq, Addr.mk.injEq, and_true, true_and] at h
        rw [h.1]; exact ⟨cur, hh⟩
    have hgc : g ≠ bc := by
      rintro rfl
      obtain ⟨cur, hh⟩ := hgt
      unfold Blk at hb1c
      rw [hh] at hb1c
      simp at hb1c
    have hgp : g ≠ bp := by
      rintro rfl
      obtain ⟨cur, hh⟩ := hgt
      unfold Blk at hb1p
      rw [hh] at hb1p
      simp at hb1p
    have hfc := hb1c.free 15
    have hfp := hb1p.free (id * 6 + 5)
    have hc15' := (hb1c.cell 15).trans hC15
    have hp5' := (hb1p.cell (id * 6 + 5)).trans hP
    have hb2c := hb1c.set 15 (.slice (some ⟨g, 0, none⟩) (n + 1) cap)
    have hb2p := hb1p.other (a := ⟨bc, 15, none⟩) (fun e => hne e.symm) (.slice (some ⟨g, 0, none⟩) (n + 1) cap)
    have hK2 := hK1.setCell (x := ⟨bc, 15, none⟩) (Or.inl (Or.inl rfl)) (.slice (some ⟨g, 0, none⟩) (n + 1) cap)
    go_wp2
    go_quiet (fail)
    go_wp2
    go_ret
    have e1 : ((n + 1 : Nat) : Int) = (n : Int) + 1 := by omega
    rw [e1]
    refine ⟨g, cap, rfl, hg, hgc, hgp, ?_, ?_, ?_, ?_⟩
    · exact ownsRow_setCell_other (ownsRow_setCell_other hown' (a := ⟨bc, 15, none⟩) (by simpa [Value.ownBlock] using hgc) _) (a := ⟨bp, id * 6 + 5, none⟩) (by simpa [Value.ownBlock] using hgp) _
    · exact hb2c.other (a := ⟨bp, id * 6 + 5, none⟩) hne _
    · exact hb2p.set (id * 6 + 5) _
    · exact (hK2.setCell (x := ⟨bp, id * 6 + 5, none⟩) (Or.inl (Or.inr (Or.inl rfl))) _).drewN nq
end Go.Proofs.Ybulkcfxg
