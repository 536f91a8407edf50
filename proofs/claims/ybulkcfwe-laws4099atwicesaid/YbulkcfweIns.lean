/-
  The contract of (*ends).push.
-/
import Derived.Test.YbulkcfwePush
namespace Go.Proofs.Ybulkcfwe
open Go.RowKit

theorem grown_kept {base : Nat} {p : Nat → Prop} {a b c : World} {row : Option Nat} (h : Kept base p a b) (hg : b.grownBy c row) (hb : base ≤ b.heap.size) (hr : ∀ k, row = some k → p k) : Kept base p a c :=
  h.trans ⟨hg.os, hg.tape, hg.output, hg.size, fun k hk hp => hg.block k (by omega) (fun e => hp (hr k e.symm))⟩

set_option maxRecDepth 100000 in
set_option maxHeartbeats 2000000 in
theorem push_any (bh base : Nat) (v : Value) (l : List E) (hp : Bool) (e : E) (w : World) (hH : Hs w bh base v l hp) (hI : Inv l hp) (hl : l.length ≤ 1999) :
    Calls Yba.prog 9 #[.pointer (some ⟨bh, 0, none⟩), .agg #[.int .i64 e.1, .int .i64 e.2]] w fun r w' => r = .returned (.tuple #[]) ∧ ∃ g cap b hp', Hs w' bh base (.slice (some ⟨g, 0, none⟩) b.length cap) b hp' ∧ b.Perm (e :: l) ∧ Inv b hp' ∧ b.length = l.length + 1 ∧ Kept w.heap.size (fun x => x = bh ∨ v.ownBlock = some x) w w' ∧ (v.ownBlock = some g ∨ w.heap.size ≤ g) := by
  obtain ⟨e1, e2⟩ := e
  have hsh : ∃ ad cap0, v = .slice ad l.length cap0 := by
    rcases hH.hr.2 with ⟨h1, h2⟩ | ⟨g, cap, cur, h1, _⟩
    · exact ⟨none, 0, by rw [h1, h2]⟩
    · exact ⟨some ⟨g, 0, none⟩, cap, h1⟩
  obtain ⟨ad, cap0, hv⟩ := hsh
  subst hv
  have c0 : w.cell? ⟨bh, 0, none⟩ = some (.slice ad l.length cap0) := (hH.hb.cell 0).trans rfl
  have c1 : w.cell? ⟨bh, 1, none⟩ = some (.bool hp) := (hH.hb.cell 1).trans rfl
  have lbh := hH.hb.lt
  have lo := hH.lo
  have hi := hH.hi
  have nob : ∀ k, (Value.slice ad l.length cap0).ownBlock = some k → base ≤ k ∧ k < w.heap.size := World.ownsRow.lt hH.hr
  have hx1 : Blk (w.alloc (.cells #[.int .i64 e1, .int .i64 e2] 31)) w.heap.size 31 [.int .i64 e1, .int .i64 e2] := Blk.made (w := w) (e := 31) #[.int .i64 e1, .int .i64 e2]
  have hb1 := hH.hb.alloc (.cells #[.int .i64 e1, .int .i64 e2] 31)
  have hr1 : (w.alloc (.cells #[.int .i64 e1, .int .i64 e2] 31)).ownsRow base 31 2 (.slice ad l.length cap0) l.length (flat l) := own_keep hH.hr (fun g hg => Below.heap_alloc _ _ _ (nob g hg).2)
  have hK1 : Kept w.heap.size (fun x => x = bh ∨ (Value.slice ad l.length cap0).ownBlock = some x) w (w.alloc (.cells #[.int .i64 e1, .int .i64 e2] 31)) := (Kept.refl _ _ _).alloc (Nat.le_refl _) _
  have hz1 : (w.alloc (.cells #[.int .i64 e1, .int .i64 e2] 31)).heap.size = w.heap.size + 1 := World.size_alloc _ _
  by_cases hA : hp = true ∨ l.length = 128
  · have hcon := heapPush_any bh base (.slice ad l.length cap0) l hp (e1, e2) (w.alloc (.cells #[.int .i64 e1, .int .i64 e2] 31)) ⟨hb1, hr1, lo, by omega⟩ (by
      unfold Inv at hI
      cases hp with
      | true => exact hI.1
      | false => exact hI) (by
      unfold Inv at hI
      rcases hA with h | h
      · subst h; have := hI.2; omega
      · omega) hl
    have HC := hcon
    have HC2 : Hid (Calls Yba.prog 14 #[.pointer (some ⟨bh, 0, none⟩), .agg #[.int .i64 e1, .int .i64 e2]] (w.alloc (.cells #[.int .i64 e1, .int .i64 e2] 31)) fun r w' => r = .returned (.tuple #[]) ∧ ∃ g cap b, Hs w' bh base (.slice (some ⟨g, 0, none⟩) b.length cap) b true ∧ b.Perm ((e1, e2) :: l) ∧ IsHeap b ∧ b.length = l.length + 1 ∧ Kept (w.alloc (.cells #[.int .i64 e1, .int .i64 e2] 31)).heap.size (fun x => x = bh ∨ (Value.slice ad l.length cap0).ownBlock = some x) (w.alloc (.cells #[.int .i64 e1, .int .i64 e2] 31)) w' ∧ ((Value.slice ad l.length cap0).ownBlock = some g ∨ (w.alloc (.cells #[.int .i64 e1, .int .i64 e2] 31)).heap.size ≤ g)) := hcon
    have h32 : 32 ≤ l.length := by
      unfold Inv at hI
      rcases hA with h | h
      · subst h; have := hI.2; omega
      · omega
    have HZ1 : Hid ((w.alloc (.cells #[.int .i64 e1, .int .i64 e2] 31)).heap.size = w.heap.size + 1) := hz1
    clear hcon HC hH hI hb1 hr1 hx1 hz1
    have hfin : ∀ w', (∃ g cap b, Hs w' bh base (.slice (some ⟨g, 0, none⟩) b.length cap) b true ∧ b.Perm ((e1, e2) :: l) ∧ IsHeap b ∧ b.length = l.length + 1 ∧ Kept (w.alloc (.cells #[.int .i64 e1, .int .i64 e2] 31)).heap.size (fun x => x = bh ∨ (Value.slice ad l.length cap0).ownBlock = some x) (w.alloc (.cells #[.int .i64 e1, .int .i64 e2] 31)) w' ∧ ((Value.slice ad l.length cap0).ownBlock = some g ∨ (w.alloc (.cells #[.int .i64 e1, .int .i64 e2] 31)).heap.size ≤ g)) →
        ∃ g cap b hp', Hs w' bh base (.slice (some ⟨g, 0, none⟩) b.length cap) b hp' ∧ b.Perm ((e1, e2) :: l) ∧ Inv b hp' ∧ b.length = l.length + 1 ∧ Kept w.heap.size (fun x => x = bh ∨ (Value.slice ad l.length cap0).ownBlock = some x) w w' ∧ ((Value.slice ad l.length cap0).ownBlock = some g ∨ w.heap.size ≤ g) := by
      rintro w' ⟨g, cap, b, h1, h2, h3, h4, h5, h6⟩
      have hz := HZ1.out
      exact ⟨g, cap, b, true, h1, h2, ⟨h3, by omega⟩, h4, hK1.trans (h5.mono (by omega) (fun _ h => h)), h6.imp id (fun h => by omega)⟩
    cases hp with
    | true =>
      go_enter Yba.func9, Yba.ntmps9
      go_wp2_with fail
      refine HC2.out.mono ?_
      rintro _ w2 ⟨rfl, hres⟩
      go_wp2
      refine bodyPost_ret (results_none rfl _ _ _) rfl ?_
      exact ⟨rfl, hfin _ hres⟩
    | false =>
      have h128 : l.length = 128 := by simpa using hA
      have HI : Hid (l.length = 128) := h128
      have hd : ((l.length : Int) == 128) = true := by simp; omega
      have hd2 : decide ((l.length : Int) = 128) = true := by simp; omega
      clear h128 hA
      go_enter Yba.func9, Yba.ntmps9
      go_wp2_with fail
      refine HC2.out.mono ?_
      rintro _ w2 ⟨rfl, hres⟩
      go_wp2
      refine bodyPost_ret (results_none rfl _ _ _) rfl ?_
      exact ⟨rfl, hfin _ hres⟩
  · have hpf : hp = false := by cases hp with
      | true => exact absurd (Or.inl rfl) hA
      | false => rfl
    subst hpf
    have hne : l.length ≠ 128 := fun h => hA (Or.inr h)
    have hD : Desc l := hI
    have hd : ((l.length : Int) == 128) = false := by simp; omega
    have hd2 : decide ((l.length : Int) = 128) = false := by simp; omega
    clear hA hI hH
    go_enter Yba.func9, Yba.ntmps9
    go_upto_region 3 with fail
    clear c0 c1 hd hd2
    generalize (w.alloc (.cells #[.int .i64 e1, .int .i64 e2] 31)) = w1 at *
    obtain ⟨bx, hbx⟩ : ∃ bx, bx = w.heap.size := ⟨_, rfl⟩
    rw [← hbx] at hx1 ⊢
    have HB : Hid (bx = w.heap.size ∧ w1.heap.size = w.heap.size + 1) := ⟨hbx, hz1⟩
    have nxb : bx ≠ bh := by omega
    have nobx : ∀ k, (Value.slice ad l.length cap0).ownBlock = some k → k ≠ bh ∧ k ≠ bx := fun k hk => by have := nob k hk; omega
    clear hbx hz1
    go_cut [] from 6 to 30 (fun wx => ∃ g cap, Row wx base g cap (l ++ [(e1, e2)]) ∧ Blk wx bh 34 [.slice (some ⟨g, 0, none⟩) (l.length + 1) cap, .bool false] ∧ Blk wx bx 31 [.int .i64 e1, .int .i64 e2] ∧ Kept w.heap.size (fun x => x = bh ∨ (Value.slice ad l.length cap0).ownBlock = some x) w wx ∧ ((Value.slice ad l.length cap0).ownBlock = some g ∨ w.heap.size < g))
    case first =>
      have c0 : w1.cell? ⟨bh, 0, none⟩ = some (.slice ad l.length cap0) := (hb1.cell 0).trans rfl
      have x0 : w1.cell? ⟨bx, 0, none⟩ = some (.int .i64 e1) := (hx1.cell 0).trans rfl
      have x1 : w1.cell? ⟨bx, 1, none⟩ = some (.int .i64 e2) := (hx1.cell 1).trans rfl
      have lb2 := hb1.lt
      have lx2 := hx1.lt
      have hrA : Hid ((w1.alloc (.cells #[.int .i64 e1, .int .i64 e2] 31)).ownsRow base 31 2 (.slice ad l.length cap0) l.length (flat l)) := own_keep hr1 (fun g hg => Below.heap_alloc _ _ _ (by have := nob g hg; have := HB.out; omega))
      have hnA : Hid (∀ j u, (enc (e1, e2))[j]? = some u → (w1.alloc (.cells #[.int .i64 e1, .int .i64 e2] 31)).cell? ((⟨w1.heap.size, 0, none⟩ : Addr).add j) = some u) := box_cells w1 (e1, e2)
      have hb3 := hb1.alloc (.cells #[.int .i64 e1, .int .i64 e2] 31)
      have hx3 := hx1.alloc (.cells #[.int .i64 e1, .int .i64 e2] 31)
      have hz3 : Hid (w.heap.size ≤ w1.heap.size) := by have := HB.out; show _ ≤ _; omega
      have hK3 : Kept w.heap.size (fun x => x = bh ∨ (Value.slice ad l.length cap0).ownBlock = some x) w (w1.alloc (.cells #[.int .i64 e1, .int .i64 e2] 31)) := hK1.alloc hz3.out _
      have HNO : Hid (∀ k, (Value.slice ad l.length cap0).ownBlock = some k → k ≠ bh ∧ k ≠ bx) := nobx
      clear nobx nob
      go_region_law (refine step_app rfl (.tmp 25) (.tmp 27) rfl base (.slice ad l.length cap0) l (e1, e2) (by simp [Act.eval]) hrA.out ⟨w1.heap.size, 0, none⟩ 1 (by simp [Act.eval]) hnA.out (by omega) (by have := hz3.out; simp; omega) ?_; intro g cap w3 hrow3 hgrow3 hw3; have hgrow : (w1.alloc (.cells #[.int .i64 e1, .int .i64 e2] 31)).grownBy w3 (Value.slice ad l.length cap0).ownBlock := ⟨hgrow3.os, hgrow3.tape, hgrow3.output, hgrow3.size, hgrow3.block⟩; have hb4 : Blk w3 bh 34 [.slice ad l.length cap0, .bool false] := hb3.grown hgrow (fun h => (HNO.out bh h.symm).1 rfl); have c0' : w3.cell? ⟨bh, 0, none⟩ = some (.slice ad l.length cap0) := (hb4.cell 0).trans rfl; have f0' := hb4.free 0)
      all_goals go_wp2
      all_goals go_meet
      all_goals
        have hg3 := hrow3.lt
        have nbg : g ≠ bh := by omega
        have hB := HB.out
        refine ⟨g, cap, hrow3.keep (Below.heap_setCell _ _ _ _ nbg), hb4.set 0 _, (hx3.grown hgrow (fun h => (HNO.out bx h.symm).2 rfl)).other nxb _, ?_, ?_⟩
        · exact Kept.setCell (grown_kept hK3 hgrow (by simp; omega) (fun k hk => Or.inr hk)) (Or.inl (Or.inl rfl)) _
        · rcases hw3 with h | h
          · exact Or.inl h
          · right; simp at h; omega
    case rest =>
      obtain ⟨g, cap, hr3, hb3, hx3, hK3, hg3⟩ := hcut
      obtain ⟨w3, rfl⟩ : ∃ w3 : World, w3 = wc := ⟨_, rfl⟩
      have c0 : w3.cell? ⟨bh, 0, none⟩ = some (.slice (some ⟨g, 0, none⟩) (l.length + 1) cap) := (hb3.cell 0).trans rfl
      have nbg : g ≠ bh := by have := hr3.lt; omega
      have nxg : bx ≠ g := by
        rcases hg3 with h | h
        · have := (nobx g h).2; omega
        · have := HB.out; omega
      have hwr : IntKind.i64.wrap (l.length : Int) = (l.length : Int) := by rw [IntKind.wrap_i64]; omega
      have HNO : Hid (∀ k, (Value.slice ad l.length cap0).ownBlock = some k → k ≠ bh ∧ k ≠ bx) := nobx
      clear nobx nob hb1 hr1 hx1
      have hset : (l ++ [(e1, e2)]).set l.length (e1, e2) = l ++ [(e1, e2)] := by
        rw [List.set_append_right _ _ (Nat.le_refl _), Nat.sub_self]; rfl
      have hG0 : Gap ((l ++ [(e1, e2)]).set l.length (e1, e2)) l.length := by rw [hset]; exact gap_start l (e1, e2) hD
      go_wp2
      go_loopg [5] l.length (fun gk i wr => ∃ a : List E, i = .int .i64 (gk : Int) ∧ gk ≤ l.length ∧ a.length = l.length + 1 ∧ Row wr base g cap a ∧ (a.set gk (e1, e2)).Perm (l ++ [(e1, e2)]) ∧ Gap (a.set gk (e1, e2)) gk ∧ Blk wr bh 34 [.slice (some ⟨g, 0, none⟩) (l.length + 1) cap, .bool false] ∧ Blk wr bx 31 [.int .i64 e1, .int .i64 e2] ∧ Kept w.heap.size (fun x => x = bh ∨ (Value.slice ad l.length cap0).ownBlock = some x) w wr)
      case atStart => exact ⟨l ++ [(e1, e2)], rfl, Nat.le_refl _, by simp, hr3, by rw [hset], hG0, hb3, hx3, hK3⟩
      case round =>
        obtain ⟨a, rfl, hkn, hla, hra, hpa, hGa, hba, hxa, hKa⟩ := hrel
        clear c0 hr3 hb3 hx3 hK3 hG0 hset hwr
        have x0 : wr.cell? ⟨bx, 0, none⟩ = some (.int .i64 e1) := (hxa.cell 0).trans rfl
        have x1 : wr.cell? ⟨bx, 1, none⟩ = some (.int .i64 e2) := (hxa.cell 1).trans rfl
        have ck0 := hra.c0 gk (by omega)
        have ck1 := hra.c1 gk (by omega)
        have fk0 := hra.free (gk * 2)
        have fk1 := hra.free (gk * 2 + 1)
        have hset2 : ∀ (wq : World), Kept w.heap.size (fun x => x = bh ∨ (Value.slice ad l.length cap0).ownBlock = some x) w wq → ∀ u1 u2, Kept w.heap.size (fun x => x = bh ∨ (Value.slice ad l.length cap0).ownBlock = some x) w ((wq.setCell ⟨g, gk * 2, none⟩ u1).setCell ⟨g, gk * 2 + 1, none⟩ u2) := fun wq hq u1 u2 => by
          have hx : ((fun x => x = bh ∨ (Value.slice ad l.length cap0).ownBlock = some x) g) ∨ w.heap.size ≤ g := hg3.imp Or.inr (fun h => by omega)
          exact (hq.setCell (x := ⟨g, gk * 2, none⟩) hx u1).setCell (x := ⟨g, gk * 2 + 1, none⟩) hx u2
        have hfin : ∀ d, Desc (a.set gk (e1, e2)) → ∃ g' cap' b, Hs (((wr.setCell ⟨g, gk * 2, none⟩ (.int .i64 e1)).setCell ⟨g, gk * 2 + 1, none⟩ (.int .i64 e2)).drewN d) bh base (.slice (some ⟨g', 0, none⟩) b.length cap') b false ∧ b.Perm ((e1, e2) :: l) ∧ Inv b false ∧ b.length = l.length + 1 ∧ Kept w.heap.size (fun x => x = bh ∨ (Value.slice ad l.length cap0).ownBlock = some x) w (((wr.setCell ⟨g, gk * 2, none⟩ (.int .i64 e1)).setCell ⟨g, gk * 2 + 1, none⟩ (.int .i64 e2)).drewN d) ∧ ((Value.slice ad l.length cap0).ownBlock = some g' ∨ w.heap.size ≤ g') := fun d hDs => by
          have hls : (a.set gk (e1, e2)).length = l.length + 1 := by rw [List.length_set]; exact hla
          have hsz := hKa.size
          refine ⟨g, cap, a.set gk (e1, e2), ⟨?_, own_row (hra.set gk (e1, e2) (by omega)), lo, by simp [World.setCell, World.drewN]; omega⟩, hpa.trans List.perm_append_comm, hDs, hls, (hset2 wr hKa _ _).drewN d, hg3.imp id (fun h => by omega)⟩
          rw [hls]
          exact (hba.other (a := ⟨g, gk * 2, none⟩) (Ne.symm nbg) _).other (a := ⟨g, gk * 2 + 1, none⟩) (Ne.symm nbg) _
        have HF : Hid (∀ d, Desc (a.set gk (e1, e2)) → ∃ g' cap' b, Hs (((wr.setCell ⟨g, gk * 2, none⟩ (.int .i64 e1)).setCell ⟨g, gk * 2 + 1, none⟩ (.int .i64 e2)).drewN d) bh base (.slice (some ⟨g', 0, none⟩) b.length cap') b false ∧ b.Perm ((e1, e2) :: l) ∧ Inv b false ∧ b.length = l.length + 1 ∧ Kept w.heap.size (fun x => x = bh ∨ (Value.slice ad l.length cap0).ownBlock = some x) w (((wr.setCell ⟨g, gk * 2, none⟩ (.int .i64 e1)).setCell ⟨g, gk * 2 + 1, none⟩ (.int .i64 e2)).drewN d) ∧ ((Value.slice ad l.length cap0).ownBlock = some g' ∨ w.heap.size ≤ g')) := hfin
        have HS2 : Hid (∀ (wq : World), Kept w.heap.size (fun x => x = bh ∨ (Value.slice ad l.length cap0).ownBlock = some x) w wq → ∀ u1 u2, Kept w.heap.size (fun x => x = bh ∨ (Value.slice ad l.length cap0).ownBlock = some x) w ((wq.setCell ⟨g, gk * 2, none⟩ u1).setCell ⟨g, gk * 2 + 1, none⟩ u2)) := hset2
        have HLA : Hid (a.length = l.length + 1) := hla
        clear hfin hset2
        by_cases h0 : gk = 0
        · subst h0
          have hDs := gap_end0 _ hGa
          have hdz : decide ((0 : Int) < ((0 : Nat) : Int)) = false := by simp
          clear hla
          go_upto_region 6 with fail
          go_quiet (fail)
          go_wp2
          go_end0
          obtain ⟨g', cap', b, hh⟩ := HF.out nq hDs
          first | exact ⟨rfl, g', cap', b, false, hh⟩ | exact ⟨rfl, g', cap', b, Or.inl hh⟩
        · obtain ⟨p, hp⟩ : ∃ p, gk = p + 1 := ⟨gk - 1, by omega⟩
          subst hp
          have cp0 := hra.c0 p (by omega)
          have cp1 := hra.c1 p (by omega)
          have hpl : p + 1 ≤ l.length := hkn
          have hp1 : ((p + 1 : Nat) : Int) - 1 = (p : Int) := by omega
          have hp2 : (p : Int) + 1 - 1 = (p : Int) := by omega
          have hwp : IntKind.i64.wrap (p : Int) = (p : Int) := by rw [IntKind.wrap_i64]; omega
          have hpI : (p : Int) < (l.length : Int) + 1 := by omega
          clear hla
          by_cases hlt : at' a p < e1
          · go_upto_region 6 with fail
            go_quiet (fail)
            go_wp2
            go_roundg p
            case measure => omega
            case rel =>
              have hst := gap_step a p (e1, e2) (by have := HLA.out; omega) hGa hlt
              refine ⟨a.set (p + 1) (a.getD p (0, 0)), rfl, by omega, by rw [List.length_set]; exact HLA.out, hra.set (p + 1) (a.getD p (0, 0)) (by have := HLA.out; omega), (perm_hole a (p + 1) p (e1, e2) (by have := HLA.out; omega) (by have := HLA.out; omega) (by omega)).trans hpa, hst, ?_, ?_, (HS2.out wr hKa _ _).drewN _⟩
              · exact (hba.other (a := ⟨g, (p + 1) * 2, none⟩) (Ne.symm nbg) _).other (a := ⟨g, (p + 1) * 2 + 1, none⟩) (Ne.symm nbg) _
              · exact (hxa.other (a := ⟨g, (p + 1) * 2, none⟩) nxg _).other (a := ⟨g, (p + 1) * 2 + 1, none⟩) nxg _
          · have hDs := gap_end a p (e1, e2) (by have := HLA.out; omega) hGa (by show e1 ≤ at' a p; omega)
            have hltd : decide (at' a p < e1) = false := by simpa using hlt
            go_upto_region 6 with fail
            go_quiet (fail)
            go_wp2
            go_end0
            obtain ⟨g', cap', b, hh⟩ := HF.out nq hDs
            first | exact ⟨rfl, g', cap', b, false, hh⟩ | exact ⟨rfl, g', cap', b, Or.inl hh⟩
end Go.Proofs.Ybulkcfwe
