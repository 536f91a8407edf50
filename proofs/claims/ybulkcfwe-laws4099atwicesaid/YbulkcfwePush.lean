/-
  The contracts of (*ends).heapPush, (*ends).push.
-/
import Derived.Test.YbulkcfweApp
import Derived.Deep.RegionWith
namespace Go.Proofs.Ybulkcfwe
open Go.RowKit

set_option maxRecDepth 100000 in
set_option maxHeartbeats 2000000 in
theorem heapPush_any (bh base : Nat) (v : Value) (l : List E) (hp : Bool) (e : E) (w : World) (hH : Hs w bh base v l hp) (hI : if hp then IsHeap l else Desc l) (h32 : 32 ≤ l.length) (hl : l.length ≤ 1999) :
    Calls Yba.prog 14 #[.pointer (some ⟨bh, 0, none⟩), .agg #[.int .i64 e.1, .int .i64 e.2]] w fun r w' => r = .returned (.tuple #[]) ∧ ∃ g cap b, Hs w' bh base (.slice (some ⟨g, 0, none⟩) b.length cap) b true ∧ b.Perm (e :: l) ∧ IsHeap b ∧ b.length = l.length + 1 ∧ Kept w.heap.size (fun x => x = bh ∨ v.ownBlock = some x) w w' ∧ (v.ownBlock = some g ∨ w.heap.size ≤ g) := by
  obtain ⟨g0, cap0, rfl, hrow⟩ := hH.row (by omega)
  obtain ⟨e1, e2⟩ := e
  have c0 : w.cell? ⟨bh, 0, none⟩ = some (.slice (some ⟨g0, 0, none⟩) l.length cap0) := (hH.hb.cell 0).trans rfl
  have c1 : w.cell? ⟨bh, 1, none⟩ = some (.bool hp) := (hH.hb.cell 1).trans rfl
  have lbh := hH.hb.lt
  have lg := hrow.lt
  have lo := hH.lo
  have hi := hH.hi
  go_enter Yba.func14, Yba.ntmps14
  go_upto_if 8 with fail
  have hx1 : Blk (w.alloc (.cells #[.int .i64 e1, .int .i64 e2] 31)) w.heap.size 31 [.int .i64 e1, .int .i64 e2] := Blk.made (w := w) (e := 31) #[.int .i64 e1, .int .i64 e2]
  have hb1 := hH.hb.alloc (.cells #[.int .i64 e1, .int .i64 e2] 31)
  have hr1 : Row (w.alloc (.cells #[.int .i64 e1, .int .i64 e2] 31)) base g0 cap0 l := hrow.keep (Below.heap_alloc _ _ _ lg.2)
  have hK1 : Kept w.heap.size (fun x => x = bh ∨ some g0 = some x) w (w.alloc (.cells #[.int .i64 e1, .int .i64 e2] 31)) := (Kept.refl _ _ _).alloc (Nat.le_refl _) _
  have hz1 : (w.alloc (.cells #[.int .i64 e1, .int .i64 e2] 31)).heap.size = w.heap.size + 1 := World.size_alloc _ _
  clear c0 c1 hH hrow
  generalize (w.alloc (.cells #[.int .i64 e1, .int .i64 e2] 31)) = w1 at *
  obtain ⟨bx, hbx⟩ : ∃ bx, bx = w.heap.size := ⟨_, rfl⟩
  rw [← hbx] at hx1 ⊢
  have HB : Hid (bx = w.heap.size ∧ w1.heap.size = w.heap.size + 1) := ⟨hbx, hz1⟩
  have nxb : bx ≠ bh := by omega
  have nxg : bx ≠ g0 := by omega
  have ngb : g0 ≠ bh := by omega
  clear hbx hz1
  go_cut [] from 4 to 16 (fun wx => ∃ l1, IsHeap l1 ∧ l1.Perm l ∧ l1.length = l.length ∧ Blk wx bh 34 [.slice (some ⟨g0, 0, none⟩) l.length cap0, .bool true] ∧ Row wx base g0 cap0 l1 ∧ Blk wx bx 31 [.int .i64 e1, .int .i64 e2] ∧ Kept w.heap.size (fun x => x = bh ∨ some g0 = some x) w wx ∧ w1.heap.size ≤ wx.heap.size)
  case first =>
    cases hp with
    | true =>
      go_wp2
      go_meet
      case rel => exact ⟨l, hI, List.Perm.refl _, rfl, hb1, hr1, hx1, hK1, Nat.le_refl _⟩
    | false =>
      have c0 : w1.cell? ⟨bh, 0, none⟩ = some (.slice (some ⟨g0, 0, none⟩) l.length cap0) := (hb1.cell 0).trans rfl
      go_wp2_with fail
      refine (rev_any base g0 cap0 l.length l w1 hr1 rfl (by omega) (by omega)).mono ?_
      rintro _ w2 ⟨rfl, hr2, hK2⟩
      have hb2 := hb1.kept hK2 hb1.lt (fun h => ngb h.symm)
      have hx2 := hx1.kept hK2 hx1.lt nxg
      have hK2' : Kept w.heap.size (fun x => x = bh ∨ some g0 = some x) w w2 := hK1.trans (hK2.mono (by have := HB.out; omega) (fun k hk => Or.inr (by rw [hk])))
      have hz2 := hK2.size
      have c1 : w2.cell? ⟨bh, 1, none⟩ = some (.bool false) := (hb2.cell 1).trans rfl
      have f1 := hb2.free 1
      clear hK2 c0
      go_wp2
      go_meet
      case rel =>
        refine ⟨l.reverse, heap_reverse l hI, List.reverse_perm l, List.length_reverse, hb2.set 1 (.bool true), hr2.keep (Below.heap_setCell _ _ _ _ ngb), hx2.other nxb _, hK2'.setCell (Or.inl (Or.inl rfl)) _, by simp [World.setCell]; exact hz2⟩
  case rest =>
    obtain ⟨l1, hh1, hp1, hl1, hb2, hr2, hx2, hK2, hz2⟩ := hcut
    obtain ⟨w2, rfl⟩ : ∃ w2 : World, w2 = wc := ⟨_, rfl⟩
    rw [← hl1] at hb2
    have HL1 : Hid (l1.length = l.length) := hl1
    have hl1k : l1.length ≤ 1999 := by omega
    clear hl1
    go_upto_region 4 with fail
    go_cut [] from 17 to 26 (fun wx => ∃ g cap, Row wx base g cap (l1 ++ [(e1, e2)]) ∧ Blk wx bh 34 [.slice (some ⟨g, 0, none⟩) (l1.length + 1) cap, .bool true] ∧ Blk wx bx 31 [.int .i64 e1, .int .i64 e2] ∧ Kept w.heap.size (fun x => x = bh ∨ some g0 = some x) w wx ∧ (g0 = g ∨ w.heap.size ≤ g))
    case first =>
      have c0 : w2.cell? ⟨bh, 0, none⟩ = some (.slice (some ⟨g0, 0, none⟩) l1.length cap0) := (hb2.cell 0).trans rfl
      have x0 : w2.cell? ⟨bx, 0, none⟩ = some (.int .i64 e1) := (hx2.cell 0).trans rfl
      have x1 : w2.cell? ⟨bx, 1, none⟩ = some (.int .i64 e2) := (hx2.cell 1).trans rfl
      have lb2 := hb2.lt
      have lx2 := hx2.lt
      have hrA : Hid ((w2.alloc (.cells #[.int .i64 e1, .int .i64 e2] 31)).ownsRow base 31 2 (.slice (some ⟨g0, 0, none⟩) l1.length cap0) l1.length (flat l1)) := hr2.keep (Below.heap_alloc _ _ _ hr2.lt.2)
      have hnA : Hid (∀ j u, (enc (e1, e2))[j]? = some u → (w2.alloc (.cells #[.int .i64 e1, .int .i64 e2] 31)).cell? ((⟨w2.heap.size, 0, none⟩ : Addr).add j) = some u) := box_cells w2 (e1, e2)
      have hb3 := hb2.alloc (.cells #[.int .i64 e1, .int .i64 e2] 31)
      have hx3 := hx2.alloc (.cells #[.int .i64 e1, .int .i64 e2] 31)
      have hz3 : Hid (w.heap.size ≤ w2.heap.size) := by have := HB.out; show _ ≤ _; omega
      have hK3 : Kept w.heap.size (fun x => x = bh ∨ some g0 = some x) w (w2.alloc (.cells #[.int .i64 e1, .int .i64 e2] 31)) := hK2.alloc hz3.out _
      go_region_law (refine step_app rfl (.tmp 21) (.tmp 23) rfl base (.slice (some ⟨g0, 0, none⟩) l1.length cap0) l1 (e1, e2) (by simp [Act.eval]) hrA.out ⟨w2.heap.size, 0, none⟩ 1 (by simp [Act.eval]) hnA.out (by omega) (by have := hz3.out; simp; omega) ?_; intro g cap w3 hrow3 hgrow3 hw3; have hgrow : (w2.alloc (.cells #[.int .i64 e1, .int .i64 e2] 31)).grownBy w3 (some g0) := ⟨hgrow3.os, hgrow3.tape, hgrow3.output, hgrow3.size, hgrow3.block⟩; have hb4 : Blk w3 bh 34 [.slice (some ⟨g0, 0, none⟩) l1.length cap0, .bool true] := hb3.grown hgrow (by simpa using ngb.symm); have c0' : w3.cell? ⟨bh, 0, none⟩ = some (.slice (some ⟨g0, 0, none⟩) l1.length cap0) := (hb4.cell 0).trans rfl; have f0' := hb4.free 0)
      all_goals go_wp2
      all_goals go_meet
      all_goals
        have hg3 := hrow3.lt
        have nbg : g ≠ bh := by omega
        refine ⟨g, cap, hrow3.keep (Below.heap_setCell _ _ _ _ nbg), hb4.set 0 _, (hx3.grown hgrow (by simpa using nxg)).other nxb _, ?_, ?_⟩
        · refine Kept.setCell (hK3.trans ⟨hgrow.os, hgrow.tape, hgrow.output, hgrow.size, fun k hk hkp => hgrow.block k (by have := hz3.out; simp; omega) (fun h => hkp (Or.inr h.symm))⟩) (Or.inl (Or.inl rfl)) _
        · rcases hw3 with h | h
          · left; simpa [Value.ownBlock] using h
          · right; have := hz3.out; simp at h; omega
    case rest =>
      obtain ⟨g, cap, hr3, hb3, hx3, hK3, hg3⟩ := hcut
      obtain ⟨w3, rfl⟩ : ∃ w3 : World, w3 = wc := ⟨_, rfl⟩
      have c0 : w3.cell? ⟨bh, 0, none⟩ = some (.slice (some ⟨g, 0, none⟩) (l1.length + 1) cap) := (hb3.cell 0).trans rfl
      have x0 : w3.cell? ⟨bx, 0, none⟩ = some (.int .i64 e1) := (hx3.cell 0).trans rfl
      have x1 : w3.cell? ⟨bx, 1, none⟩ = some (.int .i64 e2) := (hx3.cell 1).trans rfl
      have hset : (l1 ++ [(e1, e2)]).set l1.length (e1, e2) = l1 ++ [(e1, e2)] := by
        rw [List.set_append_right _ _ (Nat.le_refl _), Nat.sub_self]; rfl
      have hU : Up ((l1 ++ [(e1, e2)]).set l1.length (e1, e2)) l1.length := by rw [hset]; exact up_start l1 (e1, e2) hh1
      have hcon := up_any bh base g cap l1.length (l1.length + 1) (l1 ++ [(e1, e2)]) (e1, e2) w3.drew c0 hr3 (by simp) (by omega) (by omega) hU
      have HC : Hid (Calls Yba.prog 21 #[.pointer (some ⟨bh, 0, none⟩), .int .i64 (l1.length : Int), .agg #[.int .i64 e1, .int .i64 e2]] w3.drew fun r w' => r = .returned (.tuple #[]) ∧ ∃ b : List E, b.length = l1.length + 1 ∧ Row w' base g cap b ∧ b.Perm ((l1 ++ [(e1, e2)]).set l1.length (e1, e2)) ∧ IsHeap b ∧ Kept w3.drew.heap.size (fun x => x = g) w3.drew w') := hcon
      clear hcon hU
      rw [hset] at HC
      have hwr : IntKind.i64.wrap (l1.length : Int) = (l1.length : Int) := by rw [IntKind.wrap_i64]; omega
      go_upto_region 5 with fail
      go_region_with (go_at_call 21; refine HC.out.mono ?_; rintro _ w4 ⟨rfl, b, hbl, hr4, hp4, hh4, hK4⟩)
      all_goals go_wp2
      all_goals go_end0
      all_goals
        have hg4 := hr4.lt
        have hK4' : Kept w3.heap.size (fun x => x = g) w3 w4 := ⟨hK4.os, hK4.tape, hK4.output, hK4.size, hK4.block⟩
        have lb3 := hb3.lt
        refine ⟨rfl, g, cap, b, ⟨by rw [hbl]; exact hb3.kept hK4' lb3 (by omega), own_row hr4, lo, by have := hK3.size; have := hK4'.size; omega⟩, ?_, hh4, by rw [hbl, HL1.out], ?_, ?_⟩
        · exact hp4.trans (List.perm_append_comm.trans (hp1.cons (e1, e2)))
        · refine hK3.trans ⟨hK4'.os, hK4'.tape, hK4'.output, hK4'.size, fun k hk hkp => hK4'.block k (by have := hK3.size; omega) ?_⟩
          rcases hg3 with rfl | h
          · exact fun h => hkp (Or.inr (by rw [h]))
          · omega
        · rcases hg3 with rfl | h
          · left; rfl
          · right; exact h
end Go.Proofs.Ybulkcfwe
