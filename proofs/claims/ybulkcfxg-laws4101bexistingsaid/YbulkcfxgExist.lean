import Derived.Test.YbulkcfxgFirst
import Derived.Test.YbulkcfxgMix
import Derived.Test.YbulkcfxgOut2
namespace Go.Proofs.Ybulkcfxg
open Go.RowKit

theorem make53 (mm : Nat) (h : mm ≤ 2000) (w : World) : (Instr.makeSlice 38 (.int .i64 (mm : Int)) (.int .i64 (mm : Int))).run Yba.prog w = .ok (.slice (some ⟨w.heap.size, 0, none⟩) mm mm) (w.alloc (.cells (outs2 (List.replicate mm (0, 0))).toArray 53)) := by
  have := run_make_rows (P := Yba.prog) Yba.underlying38 info53 (out2 (0, 0)) rfl rfl (by omega) (by omega) mm (by omega) w
  rw [this, flat_rep]; rfl

/-- The law's memory ahead of the call: the clock at bc, peers at bp, outs at bo. -/
structure Ex (w0 w : World) (B bc bp bo np mm : Nat) (ls : List Nat) (ps : List (Nat × Nat)) : Prop where
  hC : Blk w bc 45 (clock27 (.slice (some ⟨bp, 0, none⟩) np np) (.slice (some ⟨bo, 0, none⟩) mm mm))
  hP : Blk w bp 57 (peersOf ls)
  hO : Blk w bo 53 (outs2 ps)
  hl : ls.length = np
  hp : ps.length = mm
  hb : Below B w0 w
  h1 : B ≤ bc
  h2 : B ≤ bp
  h3 : B ≤ bo

theorem Blk.ne {w : World} {b c : Nat} {e f : TypeId} {xs ys : List Value} (h : Blk w b e xs) (k : Blk w c f ys) (hef : e ≠ f) : b ≠ c := by
  rintro rfl
  unfold Blk at h k
  rw [h] at k
  simp at k
  exact hef k.2

theorem ex_start1 (w : World) (np mm : Nat) :
    Ex w (((w.alloc (.cells (peersOf (List.replicate np 0)).toArray 57)).alloc (.cells (outs2 (List.replicate mm (0, 0))).toArray 53)).alloc (.cells (clock27 (.slice (some ⟨w.heap.size, 0, none⟩) np np) (.slice (some ⟨w.heap.size + 1, 0, none⟩) mm mm)).toArray 45)).drew
      w.heap.size (w.heap.size + 1 + 1) w.heap.size (w.heap.size + 1) np mm (List.replicate np 0) (List.replicate mm (0, 0)) := by
  refine ⟨?_, ?_, ?_, by simp, by simp, ?_, by omega, by omega, by omega⟩
  · have := Blk.made (w := (w.alloc (.cells (peersOf (List.replicate np 0)).toArray 57)).alloc (.cells (outs2 (List.replicate mm (0, 0))).toArray 53)) (e := 45) (clock27 (.slice (some ⟨w.heap.size, 0, none⟩) np np) (.slice (some ⟨w.heap.size + 1, 0, none⟩) mm mm)).toArray
    simp only [World.size_alloc] at this
    exact this
  · exact ((Blk.made (w := w) (e := 57) (peersOf (List.replicate np 0)).toArray).alloc _).alloc _
  · have := (Blk.made (w := w.alloc (.cells (peersOf (List.replicate np 0)).toArray 57)) (e := 53) (outs2 (List.replicate mm (0, 0))).toArray).alloc (.cells (clock27 (.slice (some ⟨w.heap.size, 0, none⟩) np np) (.slice (some ⟨w.heap.size + 1, 0, none⟩) mm mm)).toArray 45)
    simp only [World.size_alloc] at this
    exact this
  · exact ((((Below.refl _ _).alloc (Nat.le_refl _) _).alloc (by simp) _).alloc (by simp; omega) _).drew
theorem ex_start2 (w : World) (np mm : Nat) :
    Ex w (((w.alloc (.cells (outs2 (List.replicate mm (0, 0))).toArray 53)).alloc (.cells (peersOf (List.replicate np 0)).toArray 57)).alloc (.cells (clock27 (.slice (some ⟨w.heap.size + 1, 0, none⟩) np np) (.slice (some ⟨w.heap.size, 0, none⟩) mm mm)).toArray 45)).drew
      w.heap.size (w.heap.size + 1 + 1) (w.heap.size + 1) w.heap.size np mm (List.replicate np 0) (List.replicate mm (0, 0)) := by
  refine ⟨?_, ?_, ?_, by simp, by simp, ?_, by omega, by omega, by omega⟩
  · have := Blk.made (w := (w.alloc (.cells (outs2 (List.replicate mm (0, 0))).toArray 53)).alloc (.cells (peersOf (List.replicate np 0)).toArray 57)) (e := 45) (clock27 (.slice (some ⟨w.heap.size + 1, 0, none⟩) np np) (.slice (some ⟨w.heap.size, 0, none⟩) mm mm)).toArray
    simp only [World.size_alloc] at this
    exact this
  · have := (Blk.made (w := w.alloc (.cells (outs2 (List.replicate mm (0, 0))).toArray 53)) (e := 57) (peersOf (List.replicate np 0)).toArray).alloc (.cells (clock27 (.slice (some ⟨w.heap.size + 1, 0, none⟩) np np) (.slice (some ⟨w.heap.size, 0, none⟩) mm mm)).toArray 45)
    simp only [World.size_alloc] at this
    exact this
  · exact ((Blk.made (w := w) (e := 53) (outs2 (List.replicate mm (0, 0))).toArray).alloc _).alloc _
  · exact ((((Below.refl _ _).alloc (Nat.le_refl _) _).alloc (by simp) _).alloc (by simp; omega) _).drew

theorem Ex.setO {w0 w : World} {B bc bp bo np mm : Nat} {ls : List Nat} {ps : List (Nat × Nat)} (h : Ex w0 w B bc bp bo np mm ls ps) (k a b : Nat) (hk : k < mm) :
    Ex w0 ((w.setCell ⟨bo, k * 6, none⟩ (.int .u64 (a : Int))).setCell ⟨bo, k * 6 + 1, none⟩ (.int .u64 (b : Int))) B bc bp bo np mm ls (ps.set k (a, b)) := by
  have n1 : bc ≠ bo := h.hC.ne h.hO (by decide)
  have n2 : bp ≠ bo := h.hP.ne h.hO (by decide)
  refine ⟨(h.hC.other (a := ⟨bo, k * 6, none⟩) n1 _).other (a := ⟨bo, k * 6 + 1, none⟩) n1 _, (h.hP.other (a := ⟨bo, k * 6, none⟩) n2 _).other (a := ⟨bo, k * 6 + 1, none⟩) n2 _, ?_, h.hl, by rw [List.length_set]; exact h.hp, (h.hb.setCell (p := ⟨bo, k * 6, none⟩) h.h3 _).setCell (p := ⟨bo, k * 6 + 1, none⟩) h.h3 _, h.h1, h.h2, h.h3⟩
  rw [← outs2_set ps k a b (by rw [h.hp]; exact hk)]
  exact (h.hO.set (k * 6) _).set (k * 6 + 1) _
theorem Ex.setP {w0 w : World} {B bc bp bo np mm : Nat} {ls : List Nat} {ps : List (Nat × Nat)} (h : Ex w0 w B bc bp bo np mm ls ps) (k y : Nat) (hk : k < np) :
    Ex w0 (w.setCell ⟨bp, k * 6 + 5, none⟩ (.int .u32 (y : Int))) B bc bp bo np mm (ls.set k y) ps := by
  have n1 : bc ≠ bp := h.hC.ne h.hP (by decide)
  have n2 : bo ≠ bp := h.hO.ne h.hP (by decide)
  refine ⟨h.hC.other (a := ⟨bp, k * 6 + 5, none⟩) n1 _, ?_, h.hO.other (a := ⟨bp, k * 6 + 5, none⟩) n2 _, by rw [List.length_set]; exact h.hl, h.hp, h.hb.setCell (p := ⟨bp, k * 6 + 5, none⟩) h.h2 _, h.h1, h.h2, h.h3⟩
  rw [← peers_set ls k y (by rw [h.hl]; exact hk)]
  exact h.hP.set (k * 6 + 5) _
theorem Ex.drew {w0 w : World} {B bc bp bo np mm : Nat} {ls : List Nat} {ps : List (Nat × Nat)} (h : Ex w0 w B bc bp bo np mm ls ps) : Ex w0 w.drew B bc bp bo np mm ls ps :=
  ⟨h.hC, h.hP, h.hO, h.hl, h.hp, h.hb.drew, h.h1, h.h2, h.h3⟩

theorem Blk.owns {w : World} {b e size n base : Nat} {xs : List Value} (h : Blk w b e xs) (hl : xs.length = n * size) (hb : base ≤ b) (hn : n ≤ 2000) : w.ownsRow base e size (.slice (some ⟨b, 0, none⟩) n n) n xs :=
  ⟨hl, Or.inr ⟨b, n, xs.toArray, rfl, hb, h, Nat.le_refl _, by unfold maxLen; omega, by simpa using hl, by rw [← hl]; simp⟩⟩

/-- The law's memory behind the call. q: what the peer's link was. -/
structure Af (w0 w : World) (B bc bp bs np mm id q g N capo o6 : Nat) (LS LS' : List Nat) (xs xs' : List Value) : Prop where
  hC : Blk w bc 45 (clock27 (.slice (some ⟨bp, 0, none⟩) np np) (.slice (some ⟨g, 0, none⟩) N capo))
  hP : Blk w bp 57 (peersOf LS')
  hS : Blk w bs 57 (peersOf LS)
  hO : w.ownsRow B 53 6 (.slice (some ⟨g, 0, none⟩) N capo) N xs'
  hb : Below B w0 w
  hd : (q ≠ 0 ∧ N = mm ∧ o6 = q - 1 ∧ LS' = LS ∧ xs' = xs) ∨ (q = 0 ∧ N = mm + 1 ∧ o6 = mm ∧ LS' = LS.set id (mm + 1) ∧ xs' = xs ++ out6 0)

set_option maxRecDepth 100000 in
set_option maxHeartbeats 4000000 in
theorem exist_walk (n mm np p : Nat) (a1 : Option Addr) (b off len cap : Nat) (zs : List Int) (w : World) (ha : 0 < len → a1 = some ⟨b, off, none⟩) (hn : n ≤ 255) (hp255 : p ≤ 255) (hmm : (n : Int) % 16 = (mm : Int)) (hnp : (len : Int) + 1 = (np : Int)) (hlen : len ≤ 1024) (hzl : len ≤ zs.length)
    (hc : ∀ j, j < zs.length → w.cell? ⟨b, off + j, none⟩ = some (.int .u8 (zs.getD j 0))) (hz : ∀ j, j < zs.length → 0 ≤ zs.getD j 0 ∧ zs.getD j 0 ≤ 255) :
    Calls Yba.prog 4 #[.int .u8 (n : Int), .slice a1 len cap, .int .u8 (p : Int)] w fun e w' => e = .returned (.bool true) ∧ Below w.heap.size w w' := by
  have hmm1 : mm ≤ 15 := by omega
  have hnp1 : np ≤ 1025 := by omega
  have hnp0 : 1 ≤ np := by omega
  have hlnp : len < np := by omega
  have hm1 := make57 np (by omega)
  have hm2 := make53 mm (by omega)
  go_enter Yba.func4, Yba.ntmps4
  go_upto_region 5 with fail
  go_cut [9] (fun c wx => ∃ bc bp bo, c = .pointer (some ⟨bc, 0, none⟩) ∧ Ex w wx w.heap.size bc bp bo np mm (List.replicate np 0) (List.replicate mm (0, 0)))
  case first =>
    go_region
    all_goals go_wp2
    all_goals go_meet
    · exact ⟨_, _, _, rfl, ex_start1 w np mm⟩
    · exact ⟨_, _, _, rfl, ex_start2 w np mm⟩
  case rest =>
    obtain ⟨bc, bp, bo, rfl, hE0⟩ := hcut
    rw [← mix_zero (fun j => (j + 1, j + 7)) (0, 0) mm] at hE0
    rw [← mix_zero (fun j => (zs.getD j 0).toNat % (mm + 1)) 0 np] at hE0
    clear hm2
    go_wp2
    go_loopg [10] mm (fun gk i wr => ∃ k : Nat, k + gk = mm ∧ i = .int .i64 (k : Int) ∧ Ex w wr w.heap.size bc bp bo np mm (mix (fun j => (zs.getD j 0).toNat % (mm + 1)) (fun _ => 0) np 0) (mix (fun j => (j + 1, j + 7)) (fun _ => (0, 0)) mm k))
    case atStart => exact ⟨0, by omega, rfl, hE0⟩
    case round =>
      obtain ⟨k, hk, rfl, hE⟩ := hrel
      have HK : Hid (k + gk = mm) := hk
      have hkl : k ≤ mm := by omega
      clear hk hE0
      by_cases hlt : k < mm
      · have c15 : wr.cell? ⟨bc, 15, none⟩ = some (.slice (some ⟨bo, 0, none⟩) mm mm) := (hE.hC.cell 15).trans rfl
        have hg : (mix (fun j => (j + 1, j + 7)) (fun _ => (0, 0)) mm k)[k]? = some (0, 0) := by rw [mix_get _ _ _ _ _ hlt, if_neg (by omega)]
        have o0 : wr.cell? ⟨bo, k * 6, none⟩ = some (.int .u64 0) := by
          rw [hE.hO.cell (k * 6)]; have := outs2_get _ k 0 _ hg (by omega); rw [Nat.add_zero] at this; rw [this]; rfl
        have o1 : wr.cell? ⟨bo, k * 6 + 1, none⟩ = some (.int .u64 0) := by rw [hE.hO.cell (k * 6 + 1), outs2_get _ k 1 _ hg (by omega)]; rfl
        have f0 := hE.hO.free (k * 6)
        have f1 := hE.hO.free (k * 6 + 1)
        have n1 : bc ≠ bo := hE.hC.ne hE.hO (by decide)
        have HG : Hid _ := hg
        clear hg
        go_wp2
        go_roundg (mm - (k + 1))
        case measure => have := HK.out; omega
        case rel =>
          refine ⟨k + 1, by omega, by go_num, ?_⟩
          have h1 := hE.setO k (k + 1) (k + 7) hlt
          rw [mix_set (fun j => (j + 1, j + 7)) (fun _ => (0, 0)) mm k (k + 1, k + 7) rfl] at h1
          exact h1
      · have hE1 : Ex w wr w.heap.size bc bp bo np mm (mix (fun j => (zs.getD j 0).toNat % (mm + 1)) (fun _ => 0) np 0) (mix (fun j => (j + 1, j + 7)) (fun _ => (0, 0)) mm mm) := by
          have e : k = mm := by omega
          rw [e] at hE; exact hE
        clear hE
        go_wp2
        clear HK hlt
        go_loopg [61] len (fun gk i wr => ∃ k : Nat, k + gk = len ∧ i = .int .i64 (k : Int) ∧ Ex w wr w.heap.size bc bp bo np mm (mix (fun j => (zs.getD j 0).toNat % (mm + 1)) (fun _ => 0) np k) (mix (fun j => (j + 1, j + 7)) (fun _ => (0, 0)) mm mm))
        case atStart => exact ⟨0, by omega, rfl, hE1⟩
        case round =>
          obtain ⟨k, hk, rfl, hE⟩ := hrel
          have HK : Hid (k + gk = len) := hk
          have hkl : k ≤ len := by omega
          clear hk hE1
          by_cases hlt : k < len
          · have hae := ha (by omega)
            clear ha
            subst hae
            obtain ⟨x, hx⟩ : ∃ x : Nat, zs.getD k 0 = (x : Int) := ⟨(zs.getD k 0).toNat, by have := hz k (by omega); omega⟩
            have hx255 : x ≤ 255 := by have := hz k (by omega); omega
            have hcx : wr.cell? ⟨b, off + k, none⟩ = some (.int .u8 (x : Int)) := by
              have h0 := hc k (by omega)
              rw [hx] at h0
              rw [hE.hb.cell (p := ⟨b, off + k, none⟩) (World.block_lt_of_cell? _ _ h0)]; exact h0
            obtain ⟨y, hyp⟩ : ∃ y : Nat, x % (mm + 1) = y := ⟨_, rfl⟩
            have hy : y ≤ mm := by rw [← hyp]; have := Nat.mod_lt x (show 0 < mm + 1 by omega); omega
            have hym : (x : Int) % ((mm : Int) + 1) = (y : Int) := by rw [← hyp]; simp
            have HY : Hid ((zs.getD k 0).toNat % (mm + 1) = y) := by rw [hx]; exact hyp
            clear hx hyp
            have c10 : wr.cell? ⟨bc, 10, none⟩ = some (.slice (some ⟨bp, 0, none⟩) np np) := (hE.hC.cell 10).trans rfl
            have p5 : wr.cell? ⟨bp, k * 6 + 5, none⟩ = some (.int .u32 0) := by
              rw [hE.hP.cell (k * 6 + 5), peers_get _ k 5 (by rw [mix_len]; omega) (by omega), List.getD_eq_getElem?_getD, mix_get _ _ _ _ _ (by omega), if_neg (by omega)]; rfl
            have f5 := hE.hP.free (k * 6 + 5)
            have hkn : k < np := by omega
            go_wp2
            go_region
            all_goals go_wp2
            all_goals go_roundg (len - (k + 1))
            case measure => have := HK.out; omega
            case rel =>
              refine ⟨k + 1, by omega, by go_num, ?_⟩
              have h1 := (hE.setP k y hkn).drew
              rw [mix_set (fun j => (zs.getD j 0).toNat % (mm + 1)) (fun _ => 0) np k y HY.out.symm] at h1
              exact h1
          · obtain ⟨LS, hLS⟩ : ∃ LS, LS = mix (fun j => (zs.getD j 0).toNat % (mm + 1)) (fun _ => 0) np len := ⟨_, rfl⟩
            obtain ⟨PS, hPS⟩ : ∃ PS : List (Nat × Nat), PS = mix (fun j => (j + 1, j + 7)) (fun _ => (0, 0)) mm mm := ⟨_, rfl⟩
            have hE2 : Ex w wr w.heap.size bc bp bo np mm LS PS := by
              have e : k = len := by omega
              rw [e, ← hLS, ← hPS] at hE; exact hE
            have hLm : ∀ j, j < np → LS.getD j 0 ≤ mm := by
              intro j hj
              rw [hLS, List.getD_eq_getElem?_getD, mix_get _ _ _ _ _ hj]
              by_cases h : j < len
              · rw [if_pos h]
                have := Nat.mod_lt (zs.getD j 0).toNat (show 0 < mm + 1 by omega)
                show (zs.getD j 0).toNat % (mm + 1) ≤ mm
                omega
              · rw [if_neg h]
                show 0 ≤ mm
                omega
            have hPg : ∀ j, j < mm → PS[j]? = some (j + 1, j + 7) := by
              intro j hj
              rw [hPS, mix_get _ _ _ _ _ hj, if_pos hj]
            clear hLS hPS hE hc hz hzl ha
            have hcp := run_copy_whole (P := Yba.prog) wr 24 3 57 6 Yba.underlying24 (by kernel_rfl) np (peersOf (List.replicate np 0)) (peersOf LS) bp (by rw [peers_len]; simp) (by rw [peers_len, hE2.hl]) hE2.hP (peers_one LS)
            obtain ⟨id, hidp⟩ : ∃ id : Nat, p % np = id := ⟨_, rfl⟩
            have hid : id < np := by rw [← hidp]; exact Nat.mod_lt _ (by omega)
            have hidm : (p : Int) % (np : Int) = (id : Int) := by rw [← hidp]; simp
            clear hidp
            obtain ⟨q, hq⟩ : ∃ q : Nat, LS.getD id 0 = q := ⟨_, rfl⟩
            have hqm : q ≤ mm := by rw [← hq]; exact hLm id hid
            have c10 : wr.cell? ⟨bc, 10, none⟩ = some (.slice (some ⟨bp, 0, none⟩) np np) := (hE2.hC.cell 10).trans rfl
            have p5 : wr.cell? ⟨bp, id * 6 + 5, none⟩ = some (.int .u32 (q : Int)) := by
              rw [hE2.hP.cell (id * 6 + 5), peers_get _ id 5 (by rw [hE2.hl]; exact hid) (by omega), hq]; rfl
            have HQ : Hid (LS.getD id 0 = q) := hq
            clear hq HK
            have b1 := hE2.hC.lt
            have b2 := hE2.hP.lt
            go_upto_region 20 with fail
            obtain ⟨wo, rfl⟩ : ∃ wo : World, wo = wr := ⟨_, rfl⟩
            clear hcp hm1
            go_cut [8, 14, 15, 16] (fun s8 s14 s15 o wx => s8 = .int .i64 (mm : Int) ∧ s14 = .int .i64 (id : Int) ∧ s15 = .int .u32 (q : Int) ∧ ∃ g N capo o6 LS' xs', o = .pointer (some ⟨g, o6 * 6, none⟩) ∧ Af w wx w.heap.size bc bp wo.heap.size np mm id q g N capo o6 LS LS' (outs2 PS) xs')
            case first =>
              have hEC := hE2.hC.alloc (.cells (peersOf LS).toArray 57)
              have hEP := hE2.hP.alloc (.cells (peersOf LS).toArray 57)
              have hEO := hE2.hO.alloc (.cells (peersOf LS).toArray 57)
              have hES : Blk (wo.alloc (.cells (peersOf LS).toArray 57)) wo.heap.size 57 (peersOf LS) := Blk.made (peersOf LS).toArray
              have hEB : Below w.heap.size w (wo.alloc (.cells (peersOf LS).toArray 57)) := hE2.hb.alloc (by have := hE2.h1; omega) _
              have hown : (wo.alloc (.cells (peersOf LS).toArray 57)).ownsRow w.heap.size 53 6 (.slice (some ⟨bo, 0, none⟩) mm mm) mm (outs2 PS) := hEO.owns (by rw [outs2_len, hE2.hp]) hE2.h3 (by omega)
              have nco : bo ≠ bc := hE2.hO.ne hE2.hC (by decide)
              have npo : bo ≠ bp := hE2.hO.ne hE2.hP (by decide)
              have ncp : bc ≠ bp := hE2.hC.ne hE2.hP (by decide)
              have hb3 := hE2.hO.lt
              have hh1 := hE2.h1
              have hh2 := hE2.h2
              have hh3 := hE2.h3
              by_cases hq0 : q = 0
              · subst hq0
                have hP5 : (peersOf LS)[id * 6 + 5]? = some (.int .u32 0) := by rw [peers_get LS id 5 (by rw [hE2.hl]; exact hid) (by omega), HQ.out]; rfl
                go_wp2_with fail
                refine (out_new2 (wo.alloc (.cells (peersOf LS).toArray 57)) w.heap.size bc bp np id mm (outs2 PS) _ (peersOf LS) (.slice (some ⟨bo, 0, none⟩) mm mm) hid (by omega) (by omega) hEC hEP rfl rfl hP5 hown (by simpa [Value.ownBlock] using nco) (by simpa [Value.ownBlock] using npo) ncp (by simp; omega)).mono ?_
                rintro e w1 ⟨g, cap1, rfl, hg, hgc, hgp, hown1, hC1, hP1, hK1⟩
                go_wp2
                go_meet
                case rel =>
                  refine ⟨rfl, rfl, rfl, g, mm + 1, cap1, mm, LS.set id (mm + 1), outs2 PS ++ out6 0, rfl, hC1, ?_, ?_, hown1, ?_, Or.inr ⟨rfl, rfl, rfl, rfl, rfl⟩⟩
                  · rw [← peers_set LS id (mm + 1) (by rw [hE2.hl]; exact hid)]; exact hP1
                  · exact hES.kept hK1 (by simp) (fun h => by
                      rcases h with h | h | h
                      · omega
                      · omega
                      · simp [Value.ownBlock] at h; omega)
                  · exact hEB.trans (hK1.below (by simp; omega) (fun k h => by
                      rcases h with h | h | h
                      · omega
                      · omega
                      · simp [Value.ownBlock] at h; omega))
              · have c10' : (wo.alloc (.cells (peersOf LS).toArray 57)).cell? ⟨bc, 10, none⟩ = some (.slice (some ⟨bp, 0, none⟩) np np) := (hEC.cell 10).trans rfl
                have c15' : (wo.alloc (.cells (peersOf LS).toArray 57)).cell? ⟨bc, 15, none⟩ = some (.slice (some ⟨bo, 0, none⟩) mm mm) := (hEC.cell 15).trans rfl
                have p5' : (wo.alloc (.cells (peersOf LS).toArray 57)).cell? ⟨bp, id * 6 + 5, none⟩ = some (.int .u32 (q : Int)) := by
                  rw [hEP.cell (id * 6 + 5), peers_get _ id 5 (by rw [hE2.hl]; exact hid) (by omega), HQ.out]; rfl
                go_wp2_with fail
                refine (out_old (wo.alloc (.cells (peersOf LS).toArray 57)) bc bp np id bo mm mm q hid (by omega) (by omega) hqm (by omega) c10' p5' c15').mono ?_
                rintro e w1 ⟨rfl, d1, rfl⟩
                go_wp2
                go_meet
                case rel =>
                  exact ⟨rfl, rfl, rfl, bo, mm, mm, q - 1, LS, outs2 PS, rfl, hEC, hEP, hES, hown, ⟨hEB.os, hEB.tape, hEB.output, hEB.size, hEB.block⟩, Or.inl ⟨hq0, rfl, rfl, rfl, rfl⟩⟩
            case rest =>
              obtain ⟨rfl, rfl, rfl, g, N, capo, o6, LS', xs', rfl, hA⟩ := hcut
              have c10 : wc.cell? ⟨bc, 10, none⟩ = some (.slice (some ⟨bp, 0, none⟩) np np) := (hA.hC.cell 10).trans rfl
              have c15 : wc.cell? ⟨bc, 15, none⟩ = some (.slice (some ⟨g, 0, none⟩) N capo) := (hA.hC.cell 15).trans rfl
              have hL' : ∀ j, j < np → j ≠ id → LS'.getD j 0 = LS.getD j 0 := by
                intro j hj hne
                rcases hA.hd with ⟨_, _, _, e, _⟩ | ⟨_, _, _, e, _⟩
                · rw [e]
                · rw [e, List.getD_eq_getElem?_getD, List.getElem?_set_ne (fun h => hne h.symm), List.getD_eq_getElem?_getD]
              have hl' : LS'.length = np := by
                rcases hA.hd with ⟨_, _, _, e, _⟩ | ⟨_, _, _, e, _⟩
                · rw [e]; exact hE2.hl
                · rw [e, List.length_set]; exact hE2.hl
              have hlS : LS.length = np := hE2.hl
              have hN : mm ≤ N := by rcases hA.hd with ⟨_, e, _⟩ | ⟨_, e, _⟩ <;> omega
              have hN2 : N ≤ 16 := by rcases hA.hd with ⟨_, e, _⟩ | ⟨_, e, _⟩ <;> omega
              have ho : ∀ j t, j < mm → t < 6 → wc.cell? ⟨g, j * 6 + t, none⟩ = (out2 (j + 1, j + 7))[t]? := by
                intro j t hj ht
                rw [hA.hO.cellAt (j * 6 + t) (by omega)]
                have h0 := outs2_get PS j t _ (hPg j hj) ht
                rcases hA.hd with ⟨_, _, _, _, e⟩ | ⟨_, _, _, _, e⟩
                · rw [e]; exact h0
                · rw [e, List.getElem?_append_left (by rw [outs2_len, hE2.hp]; omega)]; exact h0
              have HQ2 : Hid (LS.getD id 0 = q) := HQ
              clear p5 hE2 hLm hPg HQ b1 b2 hkl
              go_wp2
              go_loopg [17] np (fun gk j wj => ∃ i : Nat, i + gk = np ∧ j = .int .i64 (i : Int) ∧ ∃ d, wj = wc.drewN d)
              case atStart => exact ⟨0, by omega, rfl, 0, rfl⟩
              case round =>
                obtain ⟨i, hij, rfl, d, rfl⟩ := hrel
                have HJ : Hid (i + gk = np) := hij
                have hil : i ≤ np := by omega
                clear hij
                by_cases hi : i < np
                · by_cases hji : i = id
                  · subst hji
                    go_wp2
                    go_quiet (fail)
                    go_wp2
                    go_roundg (np - (i + 1))
                    case measure => have := HJ.out; omega
                    case rel => exact ⟨i + 1, by omega, by go_num, _, rfl⟩
                  · have hnb : ((i : Int) != (id : Int)) = true := by simp; omega
                    obtain ⟨q2, hq2⟩ : ∃ q2 : Nat, LS.getD i 0 = q2 := ⟨_, rfl⟩
                    have pS : ∀ t, t < 6 → wc.cell? ⟨wo.heap.size, i * 6 + t, none⟩ = (peer6 q2)[t]? := fun t ht => by rw [hA.hS.cell, peers_get LS i t (by omega) ht, hq2]
                    have pP : ∀ t, t < 6 → wc.cell? ⟨bp, i * 6 + t, none⟩ = (peer6 q2)[t]? := fun t ht => by rw [hA.hP.cell, peers_get LS' i t (by omega) ht, hL' i hi hji, hq2]
                    have s0 : wc.cell? ⟨wo.heap.size, i * 6, none⟩ = some (.int .u64 0) := pS 0 (by omega)
                    have s1 : wc.cell? ⟨wo.heap.size, i * 6 + 1, none⟩ = some (.int .u32 0) := pS 1 (by omega)
                    have s2 : wc.cell? ⟨wo.heap.size, i * 6 + 2, none⟩ = some (.int .u8 0) := pS 2 (by omega)
                    have s3 : wc.cell? ⟨wo.heap.size, i * 6 + 3, none⟩ = some (.int .u8 0) := pS 3 (by omega)
                    have s4 : wc.cell? ⟨wo.heap.size, i * 6 + 4, none⟩ = some (.int .u8 0) := pS 4 (by omega)
                    have s5 : wc.cell? ⟨wo.heap.size, i * 6 + 5, none⟩ = some (.int .u32 (q2 : Int)) := pS 5 (by omega)
                    have r0 : wc.cell? ⟨bp, i * 6, none⟩ = some (.int .u64 0) := pP 0 (by omega)
                    have r1 : wc.cell? ⟨bp, i * 6 + 1, none⟩ = some (.int .u32 0) := pP 1 (by omega)
                    have r2 : wc.cell? ⟨bp, i * 6 + 2, none⟩ = some (.int .u8 0) := pP 2 (by omega)
                    have r3 : wc.cell? ⟨bp, i * 6 + 3, none⟩ = some (.int .u8 0) := pP 3 (by omega)
                    have r4 : wc.cell? ⟨bp, i * 6 + 4, none⟩ = some (.int .u8 0) := pP 4 (by omega)
                    have r5 : wc.cell? ⟨bp, i * 6 + 5, none⟩ = some (.int .u32 (q2 : Int)) := pP 5 (by omega)
                    clear pS pP hq2 ho hL'
                    go_wp2
                    go_quiet (fail)
                    go_wp2
                    go_roundg (np - (i + 1))
                    case measure => have := HJ.out; omega
                    case rel => exact ⟨i + 1, by omega, by go_num, _, rfl⟩
                · go_wp2
                  clear HJ hi hil
                  go_loopg [18] mm (fun gk j wj => ∃ i : Nat, i + gk = mm ∧ j = .int .i64 (i : Int) ∧ ∃ d, wj = wc.drewN d)
                  case atStart => exact ⟨0, by omega, rfl, _, rfl⟩
                  case round =>
                    obtain ⟨i, hij, rfl, d, rfl⟩ := hrel
                    have HJ : Hid (i + gk = mm) := hij
                    have hil : i ≤ mm := by omega
                    clear hij
                    by_cases hi : i < mm
                    · have t0 : wc.cell? ⟨g, i * 6, none⟩ = some (.int .u64 ((i : Int) + 1)) := ho i 0 hi (by omega)
                      have t1 : wc.cell? ⟨g, i * 6 + 1, none⟩ = some (.int .u64 ((i : Int) + 7)) := ho i 1 hi (by omega)
                      clear ho hL'
                      go_wp2
                      go_roundg (mm - (i + 1))
                      case measure => have := HJ.out; omega
                      case rel => exact ⟨i + 1, by omega, by go_num, _, rfl⟩
                    · have heq := run_eql_ptr
                      have hbel : Below w.heap.size w (wc.drewN d) := below_drewN hA.hb d
                      rcases hA.hd with ⟨hq0, rfl, rfl, rfl, rfl⟩ | ⟨rfl, rfl, ho6, rfl, rfl⟩
                      · have hqb : ((q : Int) != 0) = true := by simp; omega
                        have r5 : wc.cell? ⟨bp, id * 6 + 5, none⟩ = some (.int .u32 (q : Int)) := by rw [hA.hP.cell, peers_get LS' id 5 (by omega) (by omega), HQ2.out]; rfl
                        have t0 : wc.cell? ⟨g, (q - 1) * 6, none⟩ = some (.int .u64 (q : Int)) := by
                          have := ho (q - 1) 0 (by omega) (by omega)
                          rw [Nat.add_zero] at this
                          rw [this]
                          show some (Value.int .u64 ((q - 1 + 1 : Nat) : Int)) = _
                          rw [show q - 1 + 1 = q by omega]
                        have hq1 : 1 ≤ q := by omega
                        clear ho hL'
                        go_wp2
                        go_ret
                        exact ⟨rfl, hbel⟩
                      · have ho7 := ho6.symm
                        subst ho7
                        have r5 : wc.cell? ⟨bp, id * 6 + 5, none⟩ = some (.int .u32 ((mm : Int) + 1)) := by
                          rw [hA.hP.cell, peers_get _ id 5 (by rw [List.length_set]; omega) (by omega), List.getD_eq_getElem?_getD, List.getElem?_set_self (by omega)]; rfl
                        have og : ∀ t, t < 6 → wc.cell? ⟨g, mm * 6 + t, none⟩ = (out6 0)[t]? := by
                          intro t ht
                          have hlx : (outs2 PS).length = mm * 6 := by have := hA.hO.1; simp [out6] at this; omega
                          rw [hA.hO.cellAt (mm * 6 + t) (by omega), List.getElem?_append_right (by omega), hlx, show mm * 6 + t - mm * 6 = t by omega]
                        have t0 : wc.cell? ⟨g, mm * 6, none⟩ = some (.int .u64 0) := og 0 (by omega)
                        have t1 : wc.cell? ⟨g, mm * 6 + 1, none⟩ = some (.int .u64 0) := og 1 (by omega)
                        have t2 : wc.cell? ⟨g, mm * 6 + 2, none⟩ = some (.int .u32 0) := og 2 (by omega)
                        have t3 : wc.cell? ⟨g, mm * 6 + 3, none⟩ = some (.int .u8 0) := og 3 (by omega)
                        have t4 : wc.cell? ⟨g, mm * 6 + 4, none⟩ = some (.int .u8 0) := og 4 (by omega)
                        have t5 : wc.cell? ⟨g, mm * 6 + 5, none⟩ = some (.int .u8 0) := og 5 (by omega)
                        have hmlt : (mm : Int) < (mm : Int) + 1 := by omega
                        clear ho hL' og
                        go_wp2
                        go_ret
                        exact ⟨rfl, hbel⟩
end Go.Proofs.Ybulkcfxg
