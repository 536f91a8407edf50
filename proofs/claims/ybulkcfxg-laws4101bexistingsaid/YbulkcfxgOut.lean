import Derived.Test.YbulkcfxgRows
import Derived.Test.YbulkcfxgBlk
import Derived.Deep.QuietTactic
import Derived.BigQuiet
namespace Go.Proofs.Ybulkcfxg
open Go.RowKit

theorem run_eq_ptr (w : World) (a : Addr) : (Op.equalIn 10000 47 (.pointer (some a)) (.pointer (some a))).run Yba.prog w = .ok true w := by
  have hs : (sizeOf 53).run Yba.prog w = .ok 6 w := by kernel_rfl
  rw [Op.equalIn]
  simp [run_underlying Yba.underlying47, sameAddr, hs]
theorem run_neq_ptr (w : World) (a : Addr) : (binOp .neq 47 (.pointer (some a)) (.pointer (some a))).run Yba.prog w = .ok (.bool false) w := by
  simp only [binOp]
  simp [Op.equal, Op.maxDepth, run_eq_ptr w a]
theorem run_eql_ptr (w : World) (a : Addr) : (binOp .eql 47 (.pointer (some a)) (.pointer (some a))).run Yba.prog w = .ok (.bool true) w := by
  simp only [binOp]
  simp [Op.equal, Op.maxDepth, run_eq_ptr w a]

theorem info53 : (Yba.prog.info? 53).map (fun i => (i.zero, i.size, i.bytes)) = some (some (.agg #[.int .u64 0, .int .u64 0, .int .u32 0, .int .u8 0, .int .u8 0, .int .u8 0]), 6, 24) := by kernel_rfl

/-- The six cells of a zero outbound, and of one whose lastSent is m. -/
def out6 (m : Int) : List Value := [.int .u64 m, .int .u64 0, .int .u32 0, .int .u8 0, .int .u8 0, .int .u8 0]

set_option maxHeartbeats 1000000 in
theorem out_old (w : World) (bc bp np id g n cap : Nat) (r : Nat) (hid : id < np) (_hnp : np ≤ 2000) (hr0 : 1 ≤ r) (hrn : r ≤ n) (hn : n ≤ 2000)
    (hpe : w.cell? ⟨bc, 10, none⟩ = some (.slice (some ⟨bp, 0, none⟩) np np)) (hr : w.cell? ⟨bp, id * 6 + 5, none⟩ = some (.int .u32 r))
    (hou : w.cell? ⟨bc, 15, none⟩ = some (.slice (some ⟨g, 0, none⟩) n cap)) :
    Calls Yba.prog 5 #[.pointer (some ⟨bc, 0, none⟩), .int .u32 (id : Int)] w fun e w' => e = .returned (.pointer (some ⟨g, (r - 1) * 6, none⟩)) ∧ ∃ m, w' = w.drewN m := by
  have hrne : ((r : Int) == 0) = false := by simp; omega
  go_enter Yba.func5, Yba.ntmps5
  go_wp2
  go_quiet (fail)
  go_wp2
  go_ret
  exact ⟨rfl, nq, rfl⟩

theorem out6_cells (w : World) (j : Nat) (u : Value) (h : (out6 0)[j]? = some u) : (w.alloc (.cells #[.int .u64 0, .int .u64 0, .int .u32 0, .int .u8 0, .int .u8 0, .int .u8 0] 53)).cell? ((⟨w.heap.size, 0, none⟩ : Addr).add j) = some u := by
  rw [show ((⟨w.heap.size, 0, none⟩ : Addr).add j) = ⟨w.heap.size, j, none⟩ from by unfold Addr.add; split <;> simp_all]
  rw [(Blk.made (w := w) (e := 53) #[.int .u64 0, .int .u64 0, .int .u32 0, .int .u8 0, .int .u8 0, .int .u8 0]).cell j]
  exact h
theorem out6_one (m : Int) : ∀ u ∈ out6 m, u.oneCell' = true := by
  intro u hu
  simp [out6] at hu
  rcases hu with rfl | rfl | rfl | rfl <;> rfl

set_option maxHeartbeats 1000000 in
theorem out_new (w : World) (base bc bp np id n : Nat) (xs C P : List Value) (v : Value) (hid : id < np) (_hnp : np ≤ 2000) (hn : n ≤ 2000)
    (hbc : Blk w bc 45 C) (hbp : Blk w bp 57 P) (hC10 : C[10]? = some (.slice (some ⟨bp, 0, none⟩) np np)) (hC15 : C[15]? = some v) (hP : P[id * 6 + 5]? = some (.int .u32 0))
    (hown : w.ownsRow base 53 6 v n xs) (hne : bc ≠ bp) (hcb : bc < base) (hpb : bp < base) (hbase : base ≤ w.heap.size) :
    Calls Yba.prog 5 #[.pointer (some ⟨bc, 0, none⟩), .int .u32 (id : Int)] w fun e w' => ∃ g cap, e = .returned (.pointer (some ⟨g, n * 6, none⟩)) ∧ base ≤ g ∧
      w'.ownsRow base 53 6 (.slice (some ⟨g, 0, none⟩) (n + 1) cap) (n + 1) (xs ++ out6 0) ∧ Blk w' bc 45 (C.set 15 (.slice (some ⟨g, 0, none⟩) (n + 1) cap)) ∧
      Blk w' bp 57 (P.set (id * 6 + 5) (.int .u32 ((n + 1 : Nat) : Int))) ∧ Kept base (fun k => k = bc ∨ k = bp) w w' := by
  obtain ⟨i0, hi, hz0, hz1, hz2⟩ := info_parts info53
  have hc10 := (hbc.cell 10).trans hC10
  have hc15 := (hbc.cell 15).trans hC15
  have hp5 := (hbp.cell (id * 6 + 5)).trans hP
  go_enter Yba.func5, Yba.ntmps5
  go_wp2_with (at_builtin; refine wpList_append_own _ rfl (.tmp 21) (.tmp 23) 38 rfl base 53 i0 _ 6 24 Yba.underlying38 hi hz0 hz1 hz2 rfl (by decide) _ _ _ rfl (hown.alloc _) ⟨w.heap.size, 0, none⟩ 1 1 (out6 0) rfl rfl ?c1 ?c2 ?c3 ?c4 ?c5 ?c6)
  case c1 => exact out6_cells w
  case c2 => exact out6_one 0
  case c3 => unfold maxLen; omega
  case c4 => omega
  case c5 => simp; omega
  case c6 =>
    intro v' w1 hown' hgrow _
    obtain ⟨g, cap, hv⟩ : ∃ g cap, v' = .slice (some ⟨g, 0, none⟩) (n + 1) cap := by
      rcases hown'.2 with ⟨_, h0⟩ | ⟨g, cap, _, hv, _⟩
      · omega
      · exact ⟨g, cap, hv⟩
    have hlt := (hown.alloc (.cells #[.int .u64 0, .int .u64 0, .int .u32 0, .int .u8 0, .int .u8 0, .int .u8 0] 53)).lt
    rw [hv]
    rw [hv] at hown'
    have hg : base ≤ g := (hown'.lt g rfl).1
    have hb1c : Blk w1 bc 45 C := (hbc.alloc _).grown hgrow (fun e => by have := (hlt bc e.symm).1; omega)
    have hb1p : Blk w1 bp 57 P := (hbp.alloc _).grown hgrow (fun e => by have := (hlt bp e.symm).1; omega)
    have hK1 : Kept base (fun k => k = bc ∨ k = bp) w w1 := ((Kept.refl _ _ _).alloc hbase _).grown hgrow (by simp; omega) (fun k e => (hlt k e).1)
    have hfc := hb1c.free 15
    have hfp := hb1p.free (id * 6 + 5)
    have hc15' := (hb1c.cell 15).trans hC15
    have hp5' := (hb1p.cell (id * 6 + 5)).trans hP
    have hb2c := hb1c.set 15 (.slice (some ⟨g, 0, none⟩) (n + 1) cap)
    have hb2p := hb1p.other (a := ⟨bc, 15, none⟩) (fun e => hne e.symm) (.slice (some ⟨g, 0, none⟩) (n + 1) cap)
    have hK2 := hK1.setCell (x := ⟨bc, 15, none⟩) (Or.inl (Or.inl rfl)) (.slice (some ⟨g, 0, none⟩) (n + 1) cap)
    go_wp2
    go_quiet (fail)
    go_wp2
    go_ret
    have e1 : ((n + 1 : Nat) : Int) = (n : Int) + 1 := by omega
    rw [e1]
    refine ⟨g, cap, rfl, hg, ?_, ?_, ?_, ?_⟩
    · exact ownsRow_setCell_below (ownsRow_setCell_below hown' (a := ⟨bc, 15, none⟩) hcb _) (a := ⟨bp, id * 6 + 5, none⟩) hpb _
    · exact hb2c.other (a := ⟨bp, id * 6 + 5, none⟩) hne _
    · exact hb2p.set (id * 6 + 5) _
    · exact (hK2.setCell (x := ⟨bp, id * 6 + 5, none⟩) (Or.inl (Or.inr rfl)) _).drewN nq
end Go.Proofs.Ybulkcfxg
