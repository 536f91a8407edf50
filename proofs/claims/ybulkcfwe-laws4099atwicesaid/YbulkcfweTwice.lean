/-
  The walk of LawS4099ATwice.
-/
import Derived.Test.YbulkcfweModel
namespace Go.Proofs.Ybulkcfwe
open Go.RowKit

set_option maxRecDepth 100000 in
set_option maxHeartbeats 4000000 in
theorem twice_walk (aE : Option Addr) (bE off n cE ex seed : Nat) (u t : Int) (xs : List E) (w : World) (hA : ArgE w aE bE off n xs) (hn : n ≤ 1024) (hex : ex ≤ 65535) (hseed : seed ≤ 4294967295) :
    Calls Yba.prog 4 #[.slice aE n cE, .int .u16 (ex : Int), .int .u32 (seed : Int), .int .i64 u, .int .i64 t] w fun e w' => e = .returned (.bool true) ∧ Below w.heap.size w w' := by
  have hbld := build_any aE bE off n cE ex seed xs w hA hn hex hseed
  have hAl : (allOf xs ex seed).length ≤ 1424 := by
    unfold allOf
    have := hA.ln
    simp
    omega
  generalize allOf xs ex seed = A at *
  have HB : Hid (Calls Yba.prog 5 #[.slice aE n cE, .int .u16 (ex : Int), .int .u32 (seed : Int)] w fun r w' => ∃ va, r = .returned (.tuple #[.pointer (some ⟨w.heap.size, 0, none⟩), va]) ∧ Built w w' w.heap.size A A va) := hbld
  clear hbld
  have hd : decide (1024 < (n : Int)) = false := by simp; omega
  go_enter Yba.func4, Yba.ntmps4
  go_wp2_with fail
  refine HB.out.mono ?_
  rintro _ wB ⟨va, rfl, hBt⟩
  clear HB hd
  obtain ⟨bh, hbh⟩ : ∃ bh, bh = w.heap.size := ⟨_, rfl⟩
  rw [← hbh] at hBt ⊢
  have HBH : Hid (bh = w.heap.size) := hbh
  clear hbh
  obtain ⟨v, l, hp, hH, hpm, hI, hll, hne⟩ := hBt.hs
  have bva := World.ownsRow.lt hBt.ra
  have bvv := World.ownsRow.lt hH.hr
  have hdrop := drop_any bh (bh + 1) v l hp u wB hH hI (by omega)
  have HD : Hid (Calls Yba.prog 6 #[.pointer (some ⟨bh, 0, none⟩), .int .i64 u] wB fun r w' => Dropped wB bh (bh + 1) v l u r w') := hdrop
  clear hdrop
  go_wp2_with fail
  refine HD.out.mono ?_
  rintro _ wD ⟨R, m, hp', v', rfl, hH', hv', hpr, hR, hm, hI', hK⟩
  have hra : wD.ownsRow (bh + 1) 31 2 va A.length (flat A) := own_keep hBt.ra (fun g hg => hK.block g (bva g hg).2 (by
    rintro (h | h)
    · have := (bva g hg).1; omega
    · exact hne g h hg))
  have hne1 : ∀ k, v'.ownBlock = some k → va.ownBlock ≠ some k := fun k hk => hne k (by rw [← hv']; exact hk)
  have hbl : Below bh w wD := hBt.bl.trans (hK.below (by have := hBt.base; omega) (fun k hk => by
    rcases hk with rfl | hk
    · exact Nat.le_refl _
    · have := (bvv k hk).1; omega))
  obtain ⟨hsp, hsum⟩ := split_at (hpm.symm.trans hpr) hR hm
  have hml : m.length ≤ 1424 := by have := hsp.length_eq; have := later_len u A; omega
  obtain ⟨P, hP⟩ : ∃ P, P = IntKind.i64.wrap (S R) := ⟨_, rfl⟩
  rw [← hP]
  have HP : Hid (P = IntKind.i64.wrap (S (early u A))) := by show P = _; rw [hP, hsum]
  have HSP : Hid ((later u A).Perm m) := hsp
  have hinv1 := inv_any bh (bh + 1) v' m hp' wD hH' hI' (by omega)
  have HI1 : Hid (Calls Yba.prog 8 #[.pointer (some ⟨bh, 0, none⟩)] wD fun r w' => r = .returned (.bool true) ∧ ∃ m, w' = wD.drewN m) := hinv1
  clear HD hBt hH hpm hI hll hne bva bvv hpr hR hm hK hsp hsum hP hv' hinv1
  go_wp2_with fail
  refine HI1.out.mono ?_
  rintro _ wD1 ⟨rfl, d1, hw1⟩
  have hH1 : Hs wD1 bh (bh + 1) v' m hp' := by rw [hw1]; exact ⟨hH'.hb, hH'.hr, hH'.lo, hH'.hi⟩
  have hra1 : wD1.ownsRow (bh + 1) 31 2 va A.length (flat A) := by rw [hw1]; exact hra
  have hbl1 : Below bh w wD1 := by rw [hw1]; exact ⟨hbl.os, hbl.tape, hbl.output, hbl.size, hbl.block⟩
  clear HI1 hH' hra hbl hw1
  have bva := World.ownsRow.lt hra1
  have bvv := World.ownsRow.lt hH1.hr
  have hdrop := drop_any bh (bh + 1) v' m hp' t wD1 hH1 hI' (by omega)
  have HD : Hid (Calls Yba.prog 6 #[.pointer (some ⟨bh, 0, none⟩), .int .i64 t] wD1 fun r w' => Dropped wD1 bh (bh + 1) v' m t r w') := hdrop
  clear hdrop
  go_wp2_with fail
  refine HD.out.mono ?_
  rintro _ wE ⟨R2, m2, hp2, v2, rfl, hH2, hv2, hpr2, hR2, hm2, hI2, hK2⟩
  have hra2 : wE.ownsRow (bh + 1) 31 2 va A.length (flat A) := own_keep hra1 (fun g hg => hK2.block g (bva g hg).2 (by
    rintro (h | h)
    · have := (bva g hg).1; omega
    · exact hne1 g h hg))
  have hbl2 : Below bh w wE := hbl1.trans (hK2.below (by have := hH1.hi; omega) (fun k hk => by
    rcases hk with rfl | hk
    · exact Nat.le_refl _
    · have := (bvv k hk).1; omega))
  obtain ⟨hsp2, hsum2⟩ := split_at (HSP.out.trans hpr2) hR2 hm2
  have hml2 : m2.length ≤ 1424 := by have := hsp2.length_eq; have := later_len t (later u A); have := later_len u A; omega
  obtain ⟨P2, hP2⟩ : ∃ P, P = IntKind.i64.wrap (S R2) := ⟨_, rfl⟩
  rw [← hP2]
  have HP2 : Hid (P2 = IntKind.i64.wrap (S (early t (later u A)))) := by show P2 = _; rw [hP2, hsum2]
  have HSP2 : Hid ((later t (later u A)).Perm m2) := hsp2
  have hinv2 := inv_any bh (bh + 1) v2 m2 hp2 wE hH2 hI2 (by omega)
  have HI2 : Hid (Calls Yba.prog 8 #[.pointer (some ⟨bh, 0, none⟩)] wE fun r w' => r = .returned (.bool true) ∧ ∃ m, w' = wE.drewN m) := hinv2
  clear HD hH1 hI' hra1 hbl1 hne1 bva bvv hpr2 hR2 hm2 hK2 hsp2 hsum2 hP2 hv2 hinv2 HSP hml
  go_wp2_with fail
  refine HI2.out.mono ?_
  rintro _ wF ⟨rfl, d2, hw2⟩
  have hHF : Hs wF bh (bh + 1) v2 m2 hp2 := by rw [hw2]; exact ⟨hH2.hb, hH2.hr, hH2.lo, hH2.hi⟩
  have hraF : wF.ownsRow (bh + 1) 31 2 va A.length (flat A) := by rw [hw2]; exact hra2
  have hblF : Below bh w wF := by rw [hw2]; exact ⟨hbl2.os, hbl2.tape, hbl2.output, hbl2.size, hbl2.block⟩
  clear HI2 hH2 hra2 hbl2 hw2
  obtain ⟨ada, cpa, rfl, hrow⟩ := own_shape hraF
  have hS0 : IntKind.i64.wrap (S (early u (A.take 0))) = 0 := by simp [early, S_nil, IntKind.wrap_i64]
  have hS1 : IntKind.i64.wrap (S (early t (later u (A.take 0)))) = 0 := by simp [early, later, S_nil, IntKind.wrap_i64]
  go_wp2
  go_loopg [15, 16, 17, 18] A.length (fun gk wt1 wt2 s i wr => ∃ (k : Nat) (vr : Value), k + gk = A.length ∧ i = .int .i64 (k : Int) ∧ vr = s ∧ wt1 = .int .i64 (IntKind.i64.wrap (S (early u (A.take k)))) ∧ wt2 = .int .i64 (IntKind.i64.wrap (S (early t (later u (A.take k))))) ∧
      wr.ownsRow wF.heap.size 31 2 vr (later t (later u (A.take k))).length (flat (later t (later u (A.take k)))) ∧ Kept wF.heap.size (fun _ => False) wF wr)
  case atStart => exact ⟨0, _, by omega, rfl, rfl, by rw [hS0], by rw [hS1], World.ownsRow_nil _ _ _ _, Kept.refl _ _ _⟩
  case round =>
    obtain ⟨k, vr, hk, rfl, rfl, rfl, rfl, hrr, hKr⟩ := hrel
    have HK : Hid (k + gk = A.length) := hk
    have hkl : k ≤ A.length := by omega
    clear hk hS0 hS1
    obtain ⟨Q, hQ⟩ : ∃ Q, Q = IntKind.i64.wrap (S (early u (A.take k))) := ⟨_, rfl⟩
    obtain ⟨Q2, hQ2⟩ : ∃ Q, Q = IntKind.i64.wrap (S (early t (later u (A.take k)))) := ⟨_, rfl⟩
    rw [← hQ, ← hQ2]
    have HQ : Hid (Q = IntKind.i64.wrap (S (early u (A.take k)))) := hQ
    have HQ2 : Hid (Q2 = IntKind.i64.wrap (S (early t (later u (A.take k))))) := hQ2
    clear hQ hQ2
    by_cases hlt : k < A.length
    · obtain ⟨g, rfl, hR0⟩ := hrow (by omega)
      have hRk := hR0.kept hKr hR0.lt.2 (fun h => h)
      have q0 := hRk.c0 k hlt
      have q1 := hRk.c1 k hlt
      have lg := hRk.lt
      have HT := take_snoc A k hlt
      have HTT : Hid (A.take k ++ [(at' A k, pr' A k)] = A.take (k + 1)) := HT
      have hkI : (k : Int) < (A.length : Int) := by omega
      have hsz := hKr.size
      have brr := World.ownsRow.lt hrr
      have hr1 : (wr.alloc (.cells #[.int .i64 (at' A k), .int .i64 (pr' A k)] 31)).ownsRow wF.heap.size 31 2 vr (later t (later u (A.take k))).length (flat (later t (later u (A.take k)))) := own_keep hrr (fun g hg => Below.heap_alloc _ _ _ (brr g hg).2)
      have hK1 : Kept wF.heap.size (fun _ => False) wF (wr.alloc (.cells #[.int .i64 (at' A k), .int .i64 (pr' A k)] 31)) := hKr.alloc hsz _
      have hx1 : Blk (wr.alloc (.cells #[.int .i64 (at' A k), .int .i64 (pr' A k)] 31)) wr.heap.size 31 [.int .i64 (at' A k), .int .i64 (pr' A k)] := Blk.made (w := wr) (e := 31) #[.int .i64 (at' A k), .int .i64 (pr' A k)]
      have hz1 : (wr.alloc (.cells #[.int .i64 (at' A k), .int .i64 (pr' A k)] 31)).heap.size = wr.heap.size + 1 := World.size_alloc _ _
      clear HT hR0 hrow
      go_upto_region 16 with fail
      generalize (wr.alloc (.cells #[.int .i64 (at' A k), .int .i64 (pr' A k)] 31)) = w1 at *
      obtain ⟨bx, hbx⟩ : ∃ bx, bx = wr.heap.size := ⟨_, rfl⟩
      rw [← hbx] at hx1 ⊢
      have x0 : w1.cell? ⟨bx, 0, none⟩ = some (.int .i64 (at' A k)) := (hx1.cell 0).trans rfl
      have x1 : w1.cell? ⟨bx, 1, none⟩ = some (.int .i64 (pr' A k)) := (hx1.cell 1).trans rfl
      have brr1 := World.ownsRow.lt hr1
      have hsz1 := hK1.size
      clear hbx hz1 q0 q1 hRk lg hrr brr hKr hsz
      by_cases hle : at' A k ≤ u
      · have HLE : Hid (at' A k ≤ u) := hle
        go_wp2
        go_roundg (A.length - (k + 1))
        case measure => have := HK.out; omega
        case rel =>
          refine ⟨k + 1, vr, by omega, by go_num, rfl, ?_, ?_, ?_, hK1⟩
          · rw [← HTT.out, early_snoc, if_pos HLE.out, S_append, S_cons, S_nil, HQ.out, wrap64_eq, wrap_add, Int.add_zero]
          · rw [← HTT.out, later_snoc, if_pos HLE.out, List.append_nil, HQ2.out]
          · rw [← HTT.out, later_snoc, if_pos HLE.out, List.append_nil]; exact hr1
      · have HLE : Hid (¬ at' A k ≤ u) := hle
        by_cases hle2 : at' A k ≤ t
        · have HLE2 : Hid (at' A k ≤ t) := hle2
          go_wp2
          go_roundg (A.length - (k + 1))
          case measure => have := HK.out; omega
          case rel =>
            refine ⟨k + 1, vr, by omega, by go_num, rfl, ?_, ?_, ?_, hK1⟩
            · rw [← HTT.out, early_snoc, if_neg (Int.not_le.2 HLE.out), List.append_nil, HQ.out]
            · rw [← HTT.out, later_snoc, if_neg (Int.not_le.2 HLE.out), early_snoc, if_pos HLE2.out, S_append, S_cons, S_nil, HQ2.out, wrap64_eq, wrap_add, Int.add_zero]
            · rw [← HTT.out, later_snoc, if_neg (Int.not_le.2 HLE.out), later_snoc, if_pos HLE2.out, List.append_nil]; exact hr1
        · have HLE2 : Hid (¬ at' A k ≤ t) := hle2
          have hown : Hid ((w1.alloc (.cells #[.int .i64 (at' A k), .int .i64 (pr' A k)] 31)).ownsRow wF.heap.size 31 2 vr (later t (later u (A.take k))).length (flat (later t (later u (A.take k))))) := own_keep hr1 (fun g hg => Below.heap_alloc _ _ _ (brr1 g hg).2)
          have hbc : Hid (∀ j u, (enc (at' A k, pr' A k))[j]? = some u → (w1.alloc (.cells #[.int .i64 (at' A k), .int .i64 (pr' A k)] 31)).cell? ((⟨w1.heap.size, 0, none⟩ : Addr).add j) = some u) := box_cells w1 (at' A k, pr' A k)
          have hll : (later t (later u (A.take k))).length ≤ 2000 := by have h1 := later_len t (later u (A.take k)); have h2 := later_len u (A.take k); rw [List.length_take] at h2; omega
          go_wp2_with (at_builtin; refine wpList_app rfl (.tmp 68) (.tmp 70) rfl wF.heap.size vr (later t (later u (A.take k))) (at' A k, pr' A k) rfl hown.out ⟨w1.heap.size, 0, none⟩ 1 rfl hbc.out hll (by simp; omega) ?_)
          intro g2 cap2 w4 hrow4 hgrow hw
          have hK4 : Kept wF.heap.size (fun _ => False) wF w4 := (hK1.alloc hsz1 _).grown hgrow (by simp; omega) (fun k hk => (brr1 k hk).1)
          clear hgrow hw hown hbc hr1
          go_wp2
          go_roundg (A.length - (k + 1))
          case measure => have := HK.out; omega
          case rel =>
            refine ⟨k + 1, _, by omega, by go_num, rfl, ?_, ?_, ?_, hK4⟩
            · rw [← HTT.out, early_snoc, if_neg (Int.not_le.2 HLE.out), List.append_nil, HQ.out]
            · rw [← HTT.out, later_snoc, if_neg (Int.not_le.2 HLE.out), early_snoc, if_neg (Int.not_le.2 HLE2.out), List.append_nil, HQ2.out]
            · rw [← HTT.out, later_snoc, if_neg (Int.not_le.2 HLE.out), later_snoc, if_neg (Int.not_le.2 HLE2.out)]
              have := own_row hrow4
              rw [List.length_append, List.length_singleton] at this
              rw [List.length_append, List.length_singleton]
              exact this
    · have hkA : A.take k = A := List.take_of_length_le (by omega)
      rw [hkA] at hrr HQ HQ2
      have hPQ : P = Q := by rw [HP.out, HQ.out]
      have hPQ2 : P2 = Q2 := by rw [HP2.out, HQ2.out]
      subst hPQ hPQ2
      have hH3 : Hs wr bh (bh + 1) v2 m2 hp2 := by
        have b3 := World.ownsRow.lt hHF.hr
        exact ⟨hHF.hb.kept hKr hHF.hb.lt (fun h => h), own_keep hHF.hr (fun g hg => hKr.block g (b3 g hg).2 (fun h => h)), hHF.lo, by have := hHF.hi; have := hKr.size; omega⟩
      have hsame := same_any (bh + 1) v2 vr m2 (later t (later u A)) wr hH3.hr (own_base hrr hHF.hi) HSP2.out.symm (by omega)
      have HSM : Hid (Calls Yba.prog 7 #[v2, vr] wr fun r w' => r = .returned (.bool true) ∧ Below wr.heap.size wr w') := hsame
      have c0 : wr.cell? ⟨bh, 0, none⟩ = some v2 := (hH3.hb.cell 0).trans rfl
      have hblr : Below bh w wr := hblF.trans (hKr.below (by have := hHF.hi; omega) (fun _ h => h.elim))
      have hbw : bh ≤ wr.heap.size := by have := hH3.hi; omega
      have hltd : decide ((k : Int) < (A.length : Int)) = false := by simp; omega
      clear hsame hrow hraF hKr hHF hblF hrr hH3
      go_wp2_with fail
      refine HSM.out.mono ?_
      rintro _ wS ⟨rfl, hbS⟩
      have hbz : Below bh wr wS := ⟨hbS.os, hbS.tape, hbS.output, hbS.size, fun k hk => hbS.block k (by omega)⟩
      clear HSM c0
      go_wp2
      go_ret
      have hf := hblr.trans hbz
      rw [HBH.out] at hf
      exact ⟨rfl, hf.os, hf.tape, hf.output, hf.size, hf.block⟩

#print axioms twice_walk
end Go.Proofs.Ybulkcfwe
