import Derived.Test.YbulkcgeuPlan
namespace Go.Proofs.Ybulkcgeu
open Go.RowKit

set_option maxRecDepth 100000 in
set_option maxHeartbeats 4000000 in
theorem law_walk (nu ru fu n ρ f1 : Nat) (aI aC aV aO aIV aIG : Option Addr) (bI oI LI cI bC oC LC cC bV oV LV cV bO oO LO cO bIV oIV LIV cIV bIG oIG LIG cIG : Nat) (xI xC : Nat → Nat) (xV : Nat → Int) (xO : Nat → Bool) (xIV : Nat → Int) (xIG : Nat → Bool) (w : World)
    (hnu : nu ≤ 255) (hru : ru ≤ 255) (hfu : fu ≤ 255) (hn : (1 : Int) + (nu : Int) % 6 = (n : Int)) (hρ : (1 : Int) + (ru : Int) % 2 = (ρ : Int) + 1) (hf : (1 : Int) + (fu : Int) % (n : Int) = (f1 : Int) + 1) (hf1 : f1 < n)
    (hI : Arg w aI bI oI LI (fun j => .int .u8 (xI j : Int))) (hC : Arg w aC bC oC LC (fun j => .int .u8 (xC j : Int))) (hV : Arg w aV bV oV LV (fun j => .int .i64 (xV j))) (hO : Arg w aO bO oO LO (fun j => .bool (xO j)))
    (hIV : Arg w aIV bIV oIV LIV (fun j => .int .i64 (xIV j))) (hIG : Arg w aIG bIG oIG LIG (fun j => .bool (xIG j))) (hxI : ∀ j, j < LI → xI j ≤ 255) (hxC : ∀ j, j < LC → xC j ≤ 255)
    (lI : LI ≤ 1024) (lC : LC ≤ 1024) (lV : LV ≤ 1024) (lO : LO ≤ 1024) (lIV : LIV ≤ 1024) (lIG : LIG ≤ 1024) :
    Calls Yba.prog 3 #[.int .u8 (nu : Int), .int .u8 (ru : Int), .int .u8 (fu : Int), .slice aI LI cI, .slice aC LC cC, .slice aV LV cV, .slice aO LO cO, .slice aIV LIV cIV, .slice aIG LIG cIG] w fun e w' => e = .returned (.bool true) ∧ Below w.heap.size w w' := by
  have hn6 : n ≤ 6 := by omega
  have hn1 : 1 ≤ n := by omega
  have hρ1 : ρ ≤ 1 := by omega
  have m26 := make26
  have m27 := make27
  have m28 := make28
  have dI : decide (1024 < (LI : Int)) = false := by simp; omega
  have dC : decide (1024 < (LC : Int)) = false := by simp; omega
  have dV : decide (1024 < (LV : Int)) = false := by simp; omega
  have dO : decide (1024 < (LO : Int)) = false := by simp; omega
  have dIV : decide (1024 < (LIV : Int)) = false := by simp; omega
  have dIG : decide (1024 < (LIG : Int)) = false := by simp; omega
  go_enter Yba.func3, Yba.ntmps3
  go_upto_if 91 with fail
  clear dI dC dV dO dIV dIG
  obtain ⟨pp, hpp⟩ : ∃ pp, pp = if ρ = 1 then n else 1 := ⟨_, rfl⟩
  have HPP : Hid (pp = if ρ = 1 then n else 1) := hpp
  have hpp6 : pp ≤ 6 := by rw [hpp]; split <;> omega
  have hpp1 : 1 ≤ pp := by rw [hpp]; split <;> omega
  clear hpp
  go_cut [22] from 90 to 92 (fun x wx => x = .int .i64 (pp : Int) ∧ w = wx)
  case first =>
    by_cases h1 : ρ = 1
    · have hpn : pp = n := by rw [HPP.out, if_pos h1]
      subst hpn
      go_wp2
      go_meet
      case rel => exact ⟨rfl, rfl⟩
    · have hpn : pp = 1 := by rw [HPP.out, if_neg h1]
      subst hpn
      go_wp2
      go_meet
      case rel => exact ⟨rfl, rfl⟩
  case rest =>
    obtain ⟨rfl, rfl⟩ := hcut
    go_upto_region 9 with fail
    go_cut [23] from 93 to 98 (fun c wx => ∃ bH bG bT, c = .pointer (some ⟨w.heap.size + 1 + 1 + 1, 0, none⟩) ∧ Blk wx (w.heap.size + 1 + 1 + 1) 33 (node10 n bH bG bT) ∧ Blk wx bT 45 [.int .u64 0, .int .u64 0] ∧ Blk wx bH 23 [nilS, nilS] ∧ Blk wx bG 24 [nilS, nilS] ∧ Below w.heap.size w wx ∧
        wx.heap.size = w.heap.size + 1 + 1 + 1 + 1 ∧ (w.heap.size ≤ bH ∧ w.heap.size ≤ bG ∧ w.heap.size ≤ bT) ∧ (bH < w.heap.size + 1 + 1 + 1 ∧ bG < w.heap.size + 1 + 1 + 1 ∧ bT < w.heap.size + 1 + 1 + 1))
    case first =>
      go_region
      all_goals go_wp2
      all_goals go_meet
      · obtain ⟨h1, h2, h3, h4, h5, h6⟩ := four w #[nilS, nilS] #[nilS, nilS] #[.int .u64 0, .int .u64 0] #[.int .i64 1, .int .i64 (n : Int), .int .i64 1, .int .i64 0, .slice (some ⟨w.heap.size, 0, none⟩) 2 2, .slice (some ⟨w.heap.size + 1, 0, none⟩) 2 2, .slice (some ⟨w.heap.size + 1 + 1, 0, none⟩) 2 2, nilS, nilS, nilS] 23 24 45 33
        exact ⟨w.heap.size, (w.heap.size + 1), (w.heap.size + 1 + 1), rfl, h4, h3, h1, h2, h5, h6, by omega, by omega⟩
      · obtain ⟨h1, h2, h3, h4, h5, h6⟩ := four w #[nilS, nilS] #[.int .u64 0, .int .u64 0] #[nilS, nilS] #[.int .i64 1, .int .i64 (n : Int), .int .i64 1, .int .i64 0, .slice (some ⟨w.heap.size, 0, none⟩) 2 2, .slice (some ⟨w.heap.size + 1 + 1, 0, none⟩) 2 2, .slice (some ⟨w.heap.size + 1, 0, none⟩) 2 2, nilS, nilS, nilS] 23 45 24 33
        exact ⟨w.heap.size, (w.heap.size + 1 + 1), (w.heap.size + 1), rfl, h4, h2, h1, h3, h5, h6, by omega, by omega⟩
      · obtain ⟨h1, h2, h3, h4, h5, h6⟩ := four w #[nilS, nilS] #[nilS, nilS] #[.int .u64 0, .int .u64 0] #[.int .i64 1, .int .i64 (n : Int), .int .i64 1, .int .i64 0, .slice (some ⟨w.heap.size + 1, 0, none⟩) 2 2, .slice (some ⟨w.heap.size, 0, none⟩) 2 2, .slice (some ⟨w.heap.size + 1 + 1, 0, none⟩) 2 2, nilS, nilS, nilS] 24 23 45 33
        exact ⟨(w.heap.size + 1), w.heap.size, (w.heap.size + 1 + 1), rfl, h4, h3, h2, h1, h5, h6, by omega, by omega⟩
      · obtain ⟨h1, h2, h3, h4, h5, h6⟩ := four w #[nilS, nilS] #[.int .u64 0, .int .u64 0] #[nilS, nilS] #[.int .i64 1, .int .i64 (n : Int), .int .i64 1, .int .i64 0, .slice (some ⟨w.heap.size + 1 + 1, 0, none⟩) 2 2, .slice (some ⟨w.heap.size, 0, none⟩) 2 2, .slice (some ⟨w.heap.size + 1, 0, none⟩) 2 2, nilS, nilS, nilS] 24 45 23 33
        exact ⟨(w.heap.size + 1 + 1), w.heap.size, (w.heap.size + 1), rfl, h4, h2, h3, h1, h5, h6, by omega, by omega⟩
      · obtain ⟨h1, h2, h3, h4, h5, h6⟩ := four w #[.int .u64 0, .int .u64 0] #[nilS, nilS] #[nilS, nilS] #[.int .i64 1, .int .i64 (n : Int), .int .i64 1, .int .i64 0, .slice (some ⟨w.heap.size + 1, 0, none⟩) 2 2, .slice (some ⟨w.heap.size + 1 + 1, 0, none⟩) 2 2, .slice (some ⟨w.heap.size, 0, none⟩) 2 2, nilS, nilS, nilS] 45 23 24 33
        exact ⟨(w.heap.size + 1), (w.heap.size + 1 + 1), w.heap.size, rfl, h4, h1, h2, h3, h5, h6, by omega, by omega⟩
      · obtain ⟨h1, h2, h3, h4, h5, h6⟩ := four w #[.int .u64 0, .int .u64 0] #[nilS, nilS] #[nilS, nilS] #[.int .i64 1, .int .i64 (n : Int), .int .i64 1, .int .i64 0, .slice (some ⟨w.heap.size + 1 + 1, 0, none⟩) 2 2, .slice (some ⟨w.heap.size + 1, 0, none⟩) 2 2, .slice (some ⟨w.heap.size, 0, none⟩) 2 2, nilS, nilS, nilS] 45 24 23 33
        exact ⟨(w.heap.size + 1 + 1), (w.heap.size + 1), w.heap.size, rfl, h4, h1, h3, h2, h5, h6, by omega, by omega⟩
    case rest =>
      obtain ⟨bH, bG, bT, rfl, qN, qT, qH, qG, qB, qz, qo1, qo2⟩ := hcut
      clear m28
      go_wp2
      generalize hiv : (fun j : Nat => if 0 < LIV then xIV (j % LIV) else -1 - (j : Int)) = iv
      generalize hig : (fun j : Nat => if 0 < LIG then xIG (j % LIG) else false) = ig
      have hM0 : Mem w ((wc.alloc (.cells #[nilS, nilS] 23)).alloc (.cells #[nilS, nilS] 24)) w.heap.size (w.heap.size + 1 + 1 + 1) (w.heap.size + 1 + 1 + 1 + 1) (w.heap.size + 1 + 1 + 1 + 1 + 1) (w.heap.size + 1 + 1 + 1 + 1 + 1 + 1) bH bG bT n 0 (rows n iv ig 0 (sz n 0)) (rows n iv ig 0 (sz n 0)) := by
        have e1 := Blk.made (w := wc) (e := 23) #[nilS, nilS]
        have e2 := Blk.made (w := wc.alloc (.cells #[nilS, nilS] 23)) (e := 24) #[nilS, nilS]
        rw [qz] at e1
        rw [World.size_alloc, qz] at e2
        exact mem_start ((qN.alloc _).alloc _) ((qT.alloc _).alloc _) ((qH.alloc _).alloc _) ((qG.alloc _).alloc _) (e1.alloc _) e2 ((qB.alloc (by omega) _).alloc (by simp; omega) _) (by omega) (by omega) (by omega) (by simp; omega) _ _
      have hz0 : ((wc.alloc (.cells #[nilS, nilS] 23)).alloc (.cells #[nilS, nilS] 24)).heap.size = w.heap.size + 1 + 1 + 1 + 1 + 1 + 1 := by simp only [World.size_alloc, qz]
      clear qN qT qH qG qB qz qo1 qo2 m26 m27
      generalize ((wc.alloc (.cells #[nilS, nilS] 23)).alloc (.cells #[nilS, nilS] 24)) = W0 at *
      generalize w.heap.size + 1 + 1 + 1 + 1 + 1 + 1 = X at *
      generalize w.heap.size + 1 + 1 + 1 + 1 + 1 = bF at *
      generalize w.heap.size + 1 + 1 + 1 + 1 = bE at *
      generalize w.heap.size + 1 + 1 + 1 = bN at *
      go_loopg [26, 27] 2 (fun gk s i wr => ∃ k : Nat, k + gk = 2 ∧ i = .int .i64 (k : Int) ∧ s = .int .i64 (szp n k : Int) ∧ Mem w wr w.heap.size bN bE bF X bH bG bT n k (rows n iv ig 0 (sz n 0)) (rows n iv ig 0 (sz n 0)) ∧ wr.heap.size = X + 4 * k)
      case atStart => exact ⟨0, by omega, rfl, rfl, hM0, hz0⟩
      case round =>
        obtain ⟨k, hk, rfl, rfl, hM, hzr⟩ := hrel
        have HK : Hid (k + gk = 2) := hk
        have hkl : k ≤ 2 := by omega
        have HZ : Hid (wr.heap.size = X + 4 * k) := hzr
        clear hk hzr hM0 hz0
        by_cases hlt : k < 2
        ·
          obtain ⟨S, hS⟩ : ∃ S, sz n k = S := ⟨_, rfl⟩
          have hSS : (szp n k : Int) * (n : Int) = (S : Int) := by
            rw [← hS]
            have h2 : k = 0 ∨ k = 1 := by omega
            rcases h2 with rfl | rfl <;> simp [szp, sz]
          have hS36 : S ≤ 36 := by
            rw [← hS]
            unfold sz
            split
            · omega
            · exact Nat.le_trans (Nat.mul_le_mul hn6 hn6) (by omega)
          have m23 := make23 S (by omega)
          have m24 := make24 S (by omega)
          have N4 : wr.cell? ⟨bN, 4, none⟩ = some (.slice (some ⟨bH, 0, none⟩) 2 2) := (hM.hN.cell 4).trans rfl
          have N5 : wr.cell? ⟨bN, 5, none⟩ = some (.slice (some ⟨bG, 0, none⟩) 2 2) := (hM.hN.cell 5).trans rfl
          have cH : wr.cell? ⟨bH, k, none⟩ = some (.slice none 0 0) := by rw [hM.hH.cell, mix_get _ _ _ _ _ hlt, if_neg (by omega)]; rfl
          have cG : wr.cell? ⟨bG, k, none⟩ = some (.slice none 0 0) := by rw [hM.hG.cell, mix_get _ _ _ _ _ hlt, if_neg (by omega)]; rfl
          have cE : wr.cell? ⟨bE, k, none⟩ = some (.slice none 0 0) := by rw [hM.hE.cell, mix_get _ _ _ _ _ hlt, if_neg (by omega)]; rfl
          have cF : wr.cell? ⟨bF, k, none⟩ = some (.slice none 0 0) := by rw [hM.hF.cell, mix_get _ _ _ _ _ hlt, if_neg (by omega)]; rfl
          have fH := hM.hH.free k
          have fG := hM.hG.free k
          have fE := hM.hE.free k
          have fF := hM.hF.free k
          have lN := hM.hN.lt
          have lH := hM.hH.lt
          have lG := hM.hG.lt
          have lE := hM.hE.lt
          have lF := hM.hF.lt
          have nNH : bN ≠ bH := hM.hN.ne hM.hH (by decide)
          have nNG : bN ≠ bG := hM.hN.ne hM.hG (by decide)
          have nHG : bH ≠ bG := hM.hH.ne hM.hG (by decide)
          have nHF : bH ≠ bF := hM.hH.ne hM.hF (by decide)
          have nGE : bG ≠ bE := hM.hG.ne hM.hE (by decide)
          have nEF : bE ≠ bF := hM.hE.ne hM.hF (by decide)
          have nHE : bH ≠ bE := hM.o3.1
          have nGF : bG ≠ bF := hM.o3.2
          have HS : Hid (sz n k = S) := hS
          clear hS
          go_upto_region 17 with fail
          go_cut [] from 101 to 115 (fun wx => Step wr wx bH 23 3 (mix (fun i => sl (X + 4 * i) n i) (fun _ => nilS) 2 k) k (sl (X + 4 * k) n k) (intsR .i64 (List.replicate S 0)) (X + 4 * k))
          case first =>
            go_region
            all_goals go_wp2
            go_meet
            case rel =>
              have e1 : sl (X + 4 * k) n k = .slice (some ⟨wr.heap.size, 0, none⟩) S S := by rw [sl, HS.out, HZ.out]
              rw [e1]
              exact step_mk2 hM.hH HZ.out
          case rest =>
            obtain ⟨w1, rfl⟩ : ∃ w1 : World, w1 = wc := ⟨_, rfl⟩
            obtain ⟨k1, b1, r1, z1⟩ := hcut
            have HZ1 : Hid (w1.heap.size = X + 4 * k + 1) := z1
            clear z1
            have hN1 := hM.hN.kept k1 lN nNH
            have hG1 := hM.hG.kept k1 lG (Ne.symm nHG)
            have N5 : w1.cell? ⟨bN, 5, none⟩ = some (.slice (some ⟨bG, 0, none⟩) 2 2) := (hN1.cell 5).trans rfl
            have cG : w1.cell? ⟨bG, k, none⟩ = some (.slice none 0 0) := by rw [hG1.cell, mix_get _ _ _ _ _ hlt, if_neg (by omega)]; rfl
            have fG := hG1.free k
            have lN1 := hN1.lt
            have lG1 := hG1.lt
            clear N4 cH fH
            go_upto_region 18 with fail
            go_cut [] from 116 to 123 (fun wx => Step w1 wx bG 24 4 (mix (fun i => sl (X + 4 * i + 1) n i) (fun _ => nilS) 2 k) k (sl (X + 4 * k + 1) n k) (boolsR (List.replicate S false)) (X + 4 * k + 1))
            case first =>
              go_region
              all_goals go_wp2
              go_meet
              case rel =>
                have e1 : sl (X + 4 * k + 1) n k = .slice (some ⟨w1.heap.size, 0, none⟩) S S := by rw [sl, HS.out, HZ1.out]
                rw [e1]
                exact step_mk2 hG1 HZ1.out
            case rest =>
              obtain ⟨w2, rfl⟩ : ∃ w2 : World, w2 = wc := ⟨_, rfl⟩
              obtain ⟨k2, b2, r2, z2⟩ := hcut
              have HZ2 : Hid (w2.heap.size = X + 4 * k + 2) := z2
              clear z2
              have hE1 := hM.hE.kept k1 lE (Ne.symm nHE)
              have hE2 := hE1.kept k2 hE1.lt (Ne.symm nGE)
              have cE : w2.cell? ⟨bE, k, none⟩ = some (.slice none 0 0) := by rw [hE2.cell, mix_get _ _ _ _ _ hlt, if_neg (by omega)]; rfl
              have fE := hE2.free k
              have lE2 := hE2.lt
              clear N5 cG fG
              go_upto_region 19 with fail
              go_cut [] from 124 to 128 (fun wx => Step w2 wx bE 23 3 (mix (fun i => sl (X + 4 * i + 2) n i) (fun _ => nilS) 2 k) k (sl (X + 4 * k + 2) n k) (intsR .i64 (List.replicate S 0)) (X + 4 * k + 2))
              case first =>
                go_wp2
                go_meet
                case rel =>
                  have e1 : sl (X + 4 * k + 2) n k = .slice (some ⟨w2.heap.size, 0, none⟩) S S := by rw [sl, HS.out, HZ2.out]
                  rw [e1]
                  exact step_mk hE2 HZ2.out
              case rest =>
                obtain ⟨w3, rfl⟩ : ∃ w3 : World, w3 = wc := ⟨_, rfl⟩
                obtain ⟨k3, b3, r3, z3⟩ := hcut
                have HZ3 : Hid (w3.heap.size = X + 4 * k + 3) := z3
                clear z3
                have hF1 := hM.hF.kept k1 lF (Ne.symm nHF)
                have hF2 := hF1.kept k2 hF1.lt (Ne.symm nGF)
                have hF3 := hF2.kept k3 hF2.lt (Ne.symm nEF)
                have cF : w3.cell? ⟨bF, k, none⟩ = some (.slice none 0 0) := by rw [hF3.cell, mix_get _ _ _ _ _ hlt, if_neg (by omega)]; rfl
                have fF := hF3.free k
                have lF3 := hF3.lt
                clear cE fE
                go_upto_region 20 with fail
                go_cut [] from 129 to 133 (fun wx => Step w3 wx bF 24 4 (mix (fun i => sl (X + 4 * i + 3) n i) (fun _ => nilS) 2 k) k (sl (X + 4 * k + 3) n k) (boolsR (List.replicate S false)) (X + 4 * k + 3))
                case first =>
                  go_wp2
                  go_meet
                  case rel =>
                    have e1 : sl (X + 4 * k + 3) n k = .slice (some ⟨w3.heap.size, 0, none⟩) S S := by rw [sl, HS.out, HZ3.out]
                    rw [e1]
                    exact step_mk hF3 HZ3.out
                case rest =>
                  obtain ⟨w4, rfl⟩ : ∃ w4 : World, w4 = wc := ⟨_, rfl⟩
                  obtain ⟨k4, b4, r4, z4⟩ := hcut
                  have hM4 : Mem w w4 w.heap.size bN bE bF X bH bG bT n (k + 1) (rows n iv ig k 0) (rows n iv ig k 0) := by
                    have hz := HZ.out
                    have z1 := HZ1.out
                    have z2 := HZ2.out
                    have z3 := HZ3.out
                    have hmid : rows n iv ig k 0 k = (List.replicate S 0, List.replicate S false) := by
                      unfold rows
                      rw [if_pos rfl, mix_zero, mix_zero, HS.out]
                    have hoth : ∀ i, i < k → rows n iv ig 0 (sz n 0) i = rows n iv ig k 0 i := by
                      intro i hi
                      unfold rows
                      rw [if_neg (show i ≠ k by omega)]
                      by_cases e : i = 0
                      · rw [if_pos e, e]
                      · rw [if_neg e]
                    refine (hM.congr hoth hoth).more hlt w4 _ (by omega) ⟨hmid, hmid⟩ ?_ ?_ ?_ ?_ ?_ ?_ ?_ ?_ ?_
                    · exact ((r1.kept k2 r1.lt (by omega)).kept k3 (by omega) (by omega)).kept k4 (by omega) (by omega)
                    · exact (r2.kept k3 (by omega) (by omega)).kept k4 (by omega) (by omega)
                    · exact r3.kept k4 (by omega) (by omega)
                    · exact r4
                    · exact ((b1.kept k2 (by omega) (by omega)).kept k3 (by omega) (by omega)).kept k4 (by omega) (by omega)
                    · exact (b2.kept k3 (by omega) (by omega)).kept k4 (by omega) (by omega)
                    · exact b3.kept k4 (by omega) (by omega)
                    · exact b4
                    · exact (k1.mono (by omega) (by omega)).trans ((k2.mono (by omega) (by omega)).trans ((k3.mono (by omega) (by omega)).trans (k4.mono (by omega) (by omega))))
                  have hz4 : w4.heap.size = X + 4 * k + 4 := z4
                  clear k1 k2 k3 k4 b1 b2 b3 b4 r1 r2 r3 r4 HZ1 HZ2 HZ3 z4 hN1 hG1 hE1 hE2 hF1 hF2 hF3 cF fF lF3 lE2 lN1 lG1 lN lH lG lE lF m23 m24 hM
                  go_wp2
                  go_loopg [28] S (fun gj i wr => ∃ j : Nat, j + gj = S ∧ i = .int .i64 (j : Int) ∧ Mem w wr w.heap.size bN bE bF X bH bG bT n (k + 1) (rows n iv ig k j) (rows n iv ig k j) ∧ wr.heap.size = X + 4 * k + 4)
                  case atStart => exact ⟨0, by omega, rfl, hM4, hz4⟩
                  case round =>
                    obtain ⟨j, hj, rfl, hM, hzr⟩ := hrel
                    have HJ : Hid (j + gk = S) := hj
                    have hjl : j ≤ S := by omega
                    have HZ4 : Hid (wr.heap.size = X + 4 * k + 4) := hzr
                    clear hj hzr hM4 hz4
                    obtain ⟨wo, rfl⟩ : ∃ wo : World, wo = wr := ⟨_, rfl⟩
                    by_cases hjlt : j < S
                    · go_upto_if 143 with fail
                      go_cut [29] from 143 to 150 (fun x wx => x = .int .i64 (iv j) ∧ wo = wx)
                      case first =>
                        by_cases h0 : 0 < LIV
                        · have hivj : Hid (iv j = xIV (j % LIV)) := by show iv j = _; rw [← hiv]; simp only []; rw [if_pos h0]
                          obtain ⟨q, hq⟩ : ∃ q, j % LIV = q := ⟨_, rfl⟩
                          have hql : q < LIV := by rw [← hq]; exact Nat.mod_lt _ h0
                          have hmod : (j : Int) % (LIV : Int) = (q : Int) := by rw [← hq]; exact (Int.natCast_emod j LIV).symm
                          rw [hq] at hivj
                          have hc := hIV.later hM.hb hql
                          have ha := hIV.ad h0
                          subst ha
                          clear hq hiv
                          go_wp2
                          go_meet
                          case rel => exact ⟨by rw [hivj.out], rfl⟩
                        · have hivj : iv j = -1 - (j : Int) := by rw [← hiv]; simp only []; rw [if_neg h0]
                          have h00 : LIV = 0 := by omega
                          subst h00
                          go_wp2
                          go_meet
                          case rel => exact ⟨by rw [hivj], rfl⟩
                      case rest =>
                        obtain ⟨rfl, w1⟩ := hcut
                        subst w1
                        go_upto_if 153 with fail
                        go_cut [30] from 153 to 160 (fun x wx => x = .bool (ig j) ∧ wo = wx)
                        case first =>
                          by_cases h0 : 0 < LIG
                          · have hivj : Hid (ig j = xIG (j % LIG)) := by show ig j = _; rw [← hig]; simp only []; rw [if_pos h0]
                            obtain ⟨q, hq⟩ : ∃ q, j % LIG = q := ⟨_, rfl⟩
                            have hql : q < LIG := by rw [← hq]; exact Nat.mod_lt _ h0
                            have hmod : (j : Int) % (LIG : Int) = (q : Int) := by rw [← hq]; exact (Int.natCast_emod j LIG).symm
                            rw [hq] at hivj
                            have hc := hIG.later hM.hb hql
                            have ha := hIG.ad h0
                            subst ha
                            clear hq hig
                            go_wp2
                            go_meet
                            case rel => exact ⟨by rw [hivj.out], rfl⟩
                          · have hivj : ig j = false := by rw [← hig]; simp only []; rw [if_neg h0]
                            have h00 : LIG = 0 := by omega
                            subst h00
                            go_wp2
                            go_meet
                            case rel => exact ⟨by rw [hivj], rfl⟩
                        case rest =>
                          obtain ⟨rfl, w1⟩ := hcut
                          subst w1
                          have hSk := HS.out
                          have N4 : wo.cell? ⟨bN, 4, none⟩ = some (.slice (some ⟨bH, 0, none⟩) 2 2) := (hM.hN.cell 4).trans rfl
                          have N5 : wo.cell? ⟨bN, 5, none⟩ = some (.slice (some ⟨bG, 0, none⟩) 2 2) := (hM.hN.cell 5).trans rfl
                          obtain ⟨y0, hy0⟩ : ∃ y, y = X + 4 * k := ⟨_, rfl⟩
                          obtain ⟨y1, hy1⟩ : ∃ y, y = X + 4 * k + 1 := ⟨_, rfl⟩
                          obtain ⟨y2, hy2⟩ : ∃ y, y = X + 4 * k + 2 := ⟨_, rfl⟩
                          obtain ⟨y3, hy3⟩ : ∃ y, y = X + 4 * k + 3 := ⟨_, rfl⟩
                          have cH : wo.cell? ⟨bH, k, none⟩ = some (.slice (some ⟨y0, 0, none⟩) S S) := by rw [hM.hH.cell, mix_get _ _ _ _ _ hlt, if_pos (by omega), sl, hSk, hy0]
                          have cG : wo.cell? ⟨bG, k, none⟩ = some (.slice (some ⟨y1, 0, none⟩) S S) := by rw [hM.hG.cell, mix_get _ _ _ _ _ hlt, if_pos (by omega), sl, hSk, hy1]
                          have cE : wo.cell? ⟨bE, k, none⟩ = some (.slice (some ⟨y2, 0, none⟩) S S) := by rw [hM.hE.cell, mix_get _ _ _ _ _ hlt, if_pos (by omega), sl, hSk, hy2]
                          have cF : wo.cell? ⟨bF, k, none⟩ = some (.slice (some ⟨y3, 0, none⟩) S S) := by rw [hM.hF.cell, mix_get _ _ _ _ _ hlt, if_pos (by omega), sl, hSk, hy3]
                          obtain ⟨R0, R1, R2, R3⟩ := hM.hr k (by omega)
                          rw [← hy0] at R0
                          rw [← hy1] at R1
                          rw [← hy2] at R2
                          rw [← hy3] at R3
                          have hmid : rows n iv ig k j k = (mix iv (fun _ => 0) S j, mix ig (fun _ => false) S j) := by
                            unfold rows
                            rw [if_pos rfl, hSk]
                          have hmid' : rows n iv ig k (j + 1) k = (mix iv (fun _ => 0) S (j + 1), mix ig (fun _ => false) S (j + 1)) := by
                            unfold rows
                            rw [if_pos rfl, hSk]
                          rw [hmid] at R0 R1 R2 R3
                          have q0 : wo.cell? ⟨y0, j, none⟩ = some (.int .i64 0) := by rw [R0.cell, intsR_get _ _ _ (by rw [mix_len]; exact hjlt), List.getD_eq_getElem?_getD, mix_get _ _ _ _ _ hjlt, if_neg (by omega)]; rfl
                          have q1 : wo.cell? ⟨y1, j, none⟩ = some (.bool false) := by rw [R1.cell, boolsR_get _ _ (by rw [mix_len]; exact hjlt), List.getD_eq_getElem?_getD, mix_get _ _ _ _ _ hjlt, if_neg (by omega)]; rfl
                          have q2 : wo.cell? ⟨y2, j, none⟩ = some (.int .i64 0) := by rw [R2.cell, intsR_get _ _ _ (by rw [mix_len]; exact hjlt), List.getD_eq_getElem?_getD, mix_get _ _ _ _ _ hjlt, if_neg (by omega)]; rfl
                          have q3 : wo.cell? ⟨y3, j, none⟩ = some (.bool false) := by rw [R3.cell, boolsR_get _ _ (by rw [mix_len]; exact hjlt), List.getD_eq_getElem?_getD, mix_get _ _ _ _ _ hjlt, if_neg (by omega)]; rfl
                          have f0 := R0.free j
                          have f1' := R1.free j
                          have f2 := R2.free j
                          have f3 := R3.free j
                          obtain ⟨o1, o2, o3, o4, o5, o6⟩ := hM.o2
                          have e1 : bE ≠ y0 := by omega
                          have e2 : y2 ≠ y0 := by omega
                          have e3 : bN ≠ y0 := by omega
                          have e4 : bN ≠ y2 := by omega
                          have e5 : bG ≠ y0 := by omega
                          have e6 : bG ≠ y2 := by omega
                          have e7 : y1 ≠ y0 := by omega
                          have e8 : y1 ≠ y2 := by omega
                          have e9 : bF ≠ y0 := by omega
                          have e10 : bF ≠ y2 := by omega
                          have e11 : bF ≠ y1 := by omega
                          have e12 : y3 ≠ y0 := by omega
                          have e13 : y3 ≠ y1 := by omega
                          have e14 : y3 ≠ y2 := by omega
                          have HY : Hid (y0 = X + 4 * k ∧ y1 = X + 4 * k + 1 ∧ y2 = X + 4 * k + 2 ∧ y3 = X + 4 * k + 3) := ⟨hy0, hy1, hy2, hy3⟩
                          clear hy0 hy1 hy2 hy3 hSk
                          go_wp2
                          go_roundg (S - (j + 1))
                          case measure => have := HJ.out; omega
                          case rel =>
                            obtain ⟨hy0, hy1, hy2, hy3⟩ := HY.out
                            refine ⟨j + 1, by omega, rfl, ?_, ?_⟩
                            · have hl := hM.o4
                              refine hM.upd k ?_ (by omega) ?_ ?_ ?_ ?_ ?_ ?_
                              · exact ((((Kept.refl _ _ _).setCell (by left; show X + 4 * k ≤ y0 ∧ y0 < X + 4 * k + 4; omega) _).setCell (by left; show X + 4 * k ≤ y2 ∧ y2 < X + 4 * k + 4; omega) _).setCell (by left; show X + 4 * k ≤ y1 ∧ y1 < X + 4 * k + 4; omega) _).setCell (by left; show X + 4 * k ≤ y3 ∧ y3 < X + 4 * k + 4; omega) _
                              · rw [hmid', ← hy0, ← mix_set iv _ S j _ rfl, ← intsR_set]
                                exact (((R0.set j _).other (Ne.symm e2) _).other (Ne.symm e7) _).other (Ne.symm e12) _
                              · rw [hmid', ← hy1, ← mix_set ig _ S j _ rfl, ← boolsR_set]
                                exact (((R1.other e7 _).other e8 _).set j _).other (Ne.symm e13) _
                              · rw [hmid', ← hy2, ← mix_set iv _ S j _ rfl, ← intsR_set]
                                exact (((R2.other e2 _).set j _).other (Ne.symm e8) _).other (Ne.symm e14) _
                              · rw [hmid', ← hy3, ← mix_set ig _ S j _ rfl, ← boolsR_set]
                                exact ((((R3.other e12 _).other e14 _).other e13 _).set j _)
                              · intro i _ hi
                                unfold rows
                                rw [if_neg hi, if_neg hi]
                              · intro i _ hi
                                unfold rows
                                rw [if_neg hi, if_neg hi]
                            · have := HZ4.out
                              simp [World.setCell]
                              exact this
                    · have hjS : j = S := by omega
                      subst hjS
                      go_wp2
                      go_roundg (2 - (k + 1))
                      case measure => have := HK.out; omega
                      case rel =>
                        refine ⟨k + 1, by omega, rfl, ?_, ?_, ?_⟩
                        · rw [← HS.out]; rfl
                        · refine hM.congr ?_ ?_
                          all_goals
                            intro i _
                            have := HS.out
                            unfold rows
                            by_cases e : i = k
                            · rw [if_pos e]
                              subst e
                              by_cases e0 : i = 0
                              · rw [if_pos e0, e0]; subst e0; rw [this]
                              · rw [if_neg e0, this]
                            · rw [if_neg e]
                              by_cases e0 : i = 0
                              · rw [if_pos e0, e0]
                              · rw [if_neg e0]
                        · have := HZ4.out; omega
        · have hk2 : k = 2 := by omega
          subst hk2
          have HBX : Hid (wr.heap.size = X + 4 * 2) := HZ.out
          have hlen : ∀ i, (rows n iv ig 0 (sz n 0) i).1.length = sz n i ∧ (rows n iv ig 0 (sz n 0) i).2.length = sz n i := by
            intro i
            unfold rows
            by_cases e : i = 0
            · rw [if_pos e]; subst e; exact ⟨mix_len _ _ _ _, mix_len _ _ _ _⟩
            · rw [if_neg e]; exact ⟨mix_len _ _ _ _, mix_len _ _ _ _⟩
          clear HK HZ hkl hlt hiv hig
          generalize rows n iv ig 0 (sz n 0) = rw0 at hM hlen
          obtain ⟨wA, rfl⟩ : ∃ wA : World, wA = wr := ⟨_, rfl⟩
          have m31 := make31 LI (by omega)
          go_upto_region 36 with fail
          clear m31
          obtain ⟨ps, hps⟩ : ∃ ps : Nat → Nat, ps = fun i => xI i % pp := ⟨_, rfl⟩
          have hP0 : Blk (wA.alloc (.cells (intsR .i32 (List.replicate LI 0)).toArray 21)) wA.heap.size 21 (intsR .i32 (mix (fun i => (ps i : Int)) (fun _ => 0) LI 0)) := by
            rw [mix_zero]
            exact Blk.made (w := wA) (e := 21) (intsR .i32 (List.replicate LI 0)).toArray
          have hM1 : Mem w (wA.alloc (.cells (intsR .i32 (List.replicate LI 0)).toArray 21)) w.heap.size bN bE bF X bH bG bT n 2 rw0 rw0 := hM.kept ((Kept.refl _ _ _).alloc hM.o4 _)
          have hz1 : (wA.alloc (.cells (intsR .i32 (List.replicate LI 0)).toArray 21)).heap.size = wA.heap.size + 1 := World.size_alloc _ _
          clear hM
          generalize (wA.alloc (.cells (intsR .i32 (List.replicate LI 0)).toArray 21)) = wB at *
          generalize wA.heap.size = bP at *
          go_loopg [200] LI (fun gk i wr => ∃ k : Nat, k + gk = LI ∧ i = .int .i64 (k : Int) ∧ Blk wr bP 21 (intsR .i32 (mix (fun i => (ps i : Int)) (fun _ => 0) LI k)) ∧ Kept bP (fun _ => False) wB wr ∧ wr.heap.size = bP + 1)
          case atStart => exact ⟨0, by omega, rfl, hP0, Kept.refl _ _ _, hz1⟩
          case round =>
            obtain ⟨k, hk, rfl, hPk, hKk, hzk⟩ := hrel
            have HK : Hid (k + gk = LI) := hk
            have hkl : k ≤ LI := by omega
            have HZ : Hid (wr.heap.size = bP + 1) := hzk
            have oB : w.heap.size ≤ bP := by have h1 := hM1.o1; have h2 := hM1.o2; have := HBX.out; omega
            clear hk hzk hP0 hz1
            by_cases hlt : k < LI
            ·
              obtain ⟨q, hq⟩ : ∃ q, ps k = q := ⟨_, rfl⟩
              have hql : q < pp := by rw [← hq, hps]; exact Nat.mod_lt _ (by omega)
              have hmod : (xI k : Int) % (pp : Int) = (q : Int) := by rw [← hq, hps]; exact (Int.natCast_emod _ _).symm
              have hc := hI.later (hM1.hb.trans (hKk.below oB (fun _ h => h.elim))) hlt
              have ha := hI.ad (by omega)
              have hx := hxI k hlt
              have c0 : wr.cell? ⟨bP, k, none⟩ = some (.int .i32 0) := by rw [hPk.cell, intsR_get _ _ _ (by rw [mix_len]; exact hlt), List.getD_eq_getElem?_getD, mix_get _ _ _ _ _ hlt, if_neg (by omega)]; rfl
              have f0 := hPk.free k
              have HQ : Hid (ps k = q) := hq
              clear hq
              generalize hxk : xI k = x at hc hmod hx
              clear hxk
              subst ha
              go_wp2
              go_roundg (LI - (k + 1))
              case measure => have := HK.out; omega
              case rel =>
                refine ⟨k + 1, by omega, rfl, ?_, hKk.setCell (Or.inr (Nat.le_refl _)) _, ?_⟩
                · rw [← mix_set (fun i => (ps i : Int)) _ LI k _ rfl, ← intsR_set]
                  simp only [HQ.out]
                  exact hPk.set k _
                · have := HZ.out
                  simp [World.setCell]
                  exact this
            · have hkL : LI = k := by omega
              subst hkL
              have hM2 := hM1.kept (hKk.mono (by have := HBX.out; omega) (fun _ h => h))
              have hz2 := HZ.out
              obtain ⟨PL, hPL⟩ : ∃ PL, PL = mix (fun i => (ps i : Int)) (fun _ => 0) LI LI := ⟨_, rfl⟩
              have HPL : Hid (PL = mix (fun i => (ps i : Int)) (fun _ => 0) LI LI) := hPL
              rw [← hPL] at hPk
              have hPLl : PL.length = LI := by rw [hPL, mix_len]
              have hPLg : ∀ i, i < LI → (intsR .i32 PL)[i]? = some (.int .i32 (ps i : Int)) := by
                intro i hi
                rw [intsR_get _ _ _ (by rw [hPLl]; exact hi), List.getD_eq_getElem?_getD, hPL, mix_get _ _ _ _ _ hi, if_pos hi]
                rfl
              clear hM1 hKk HK HZ hkl hlt hPL
              go_wp2_with fail
              refine (clone_i32 (intsR .i32 PL) bP LI LI wr (by simp [intsR, hPLl]) (by omega) hPk.lt (fun j u hj => by rw [hPk.cell]; exact hj) (intsR_one _ _)).mono ?_
              rintro e wC ⟨g1, cap1, rfl, hown1, hB1⟩
              have og1 := hown1.lt g1 rfl
              have hMC := hM2.kept (Kept.ofBelow (p := fun _ => False) hB1 (by have := HBX.out; omega))
              have hPC : Blk wC bP 21 (intsR .i32 PL) := hPk.keep (hB1.block bP (by omega))
              have hGC : ∀ i, i < LI → wC.cell? ⟨g1, i, none⟩ = some (.int .i32 (ps i : Int)) := fun i hi => by rw [hown1.cellAt i (by omega)]; exact hPLg i hi
              have og : bP < g1 ∧ g1 < wC.heap.size := ⟨by omega, og1.2⟩
              clear hown1 hB1 hM2 hPk hz2 og1
              obtain ⟨cs, hcs, m30⟩ := make30 LC (by omega)
              go_upto_region 44 with fail
              clear m30
              obtain ⟨cnt, hcnt⟩ : ∃ f : Nat → Nat, Hid (f = cntF xC LI) := ⟨_, (rfl : cntF xC LI = _)⟩
              obtain ⟨pos, hpos⟩ : ∃ f : Nat → Nat, Hid (f = posF xC LI) := ⟨_, (rfl : posF xC LI = _)⟩
              obtain ⟨vv, hvv⟩ : ∃ f : Nat → Int, Hid (f = vF xV LV) := ⟨_, (rfl : vF xV LV = _)⟩
              obtain ⟨oo, hoo⟩ : ∃ f : Nat → Bool, Hid (f = okF xO LO) := ⟨_, (rfl : okF xO LO = _)⟩
              have hown0 : (wC.alloc (.cells cs 38)).ownsRow wC.heap.size 38 3 (.slice (some ⟨wC.heap.size, 0, none⟩) 0 LC) 0 (spansF vv oo cnt 0) := World.ownsRow_made wC cs LC (Nat.le_refl _) (by unfold maxLen; omega) hcs
              have hK0 : Kept wC.heap.size (fun _ => False) wC (wC.alloc (.cells cs 38)) := (Kept.refl _ _ _).alloc (Nat.le_refl _) _
              have hzS : wC.heap.size < (wC.alloc (.cells cs 38)).heap.size := by simp
              clear hcs
              generalize (wC.alloc (.cells cs 38)) = wD at *
              obtain ⟨bS, hbS⟩ : ∃ b, b = wC.heap.size := ⟨_, rfl⟩
              rw [← hbS] at hown0 hK0 hzS
              rw [← hbS]
              have HBS : Hid (bS = wC.heap.size) := hbS
              clear hbS
              have hp0 : pos 0 = 0 := by rw [hpos.out]; rfl
              go_loopg [35, 36, 223] LC (fun gk s r i wr => ∃ k : Nat, k + gk = LC ∧ s = .slice (some ⟨bS, 0, none⟩) k LC ∧ r = .int .i64 ((LI - pos k : Nat) : Int) ∧ i = .int .i64 (k : Int) ∧ wr.ownsRow bS 38 3 (.slice (some ⟨bS, 0, none⟩) k LC) k (spansF vv oo cnt k) ∧ Kept bS (fun _ => False) wC wr ∧ bS < wr.heap.size)
              case atStart => exact ⟨0, by omega, rfl, by rw [hp0]; rfl, rfl, hown0, hK0, hzS⟩
              case round =>
                obtain ⟨k, hk, rfl, rfl, rfl, hSk, hKk, hzk⟩ := hrel
                have HK : Hid (k + gk = LC) := hk
                have hkl : k ≤ LC := by omega
                have oC : w.heap.size ≤ bS := by have h1 := hMC.o1; have h2 := hMC.o2; have h3 := hMC.o4; have := HBS.out; omega
                clear hk hown0 hK0 hzS
                obtain ⟨wo, rfl⟩ : ∃ wo : World, wo = wr := ⟨_, rfl⟩
                by_cases hlt : k < LC
                ·
                  have hb := hMC.hb.trans (hKk.below oC (fun _ h => h.elim))
                  obtain ⟨R, hR⟩ : ∃ R, LI - pos k = R := ⟨_, rfl⟩
                  obtain ⟨q, hq⟩ : ∃ q, xC k % 4 = q := ⟨_, rfl⟩
                  obtain ⟨c, hc⟩ : ∃ c, cnt k = c := ⟨_, rfl⟩
                  have hcm : c = min q R := by rw [← hc, hcnt.out, ← hq, ← hR, hpos.out]; rfl
                  have hpk : pos (k + 1) = pos k + c := by rw [hpos.out, posF_succ, ← hpos.out, ← hcnt.out, hc]
                  have HP : Hid (LI - pos k = R ∧ pos (k + 1) = pos k + c ∧ cnt k = c) := ⟨hR, hpk, hc⟩
                  have hmod : (xC k : Int) % 4 = (q : Int) := by rw [← hq]; exact (Int.natCast_emod _ _).symm
                  have hcell := hC.later hb hlt
                  have ha := hC.ad (by omega)
                  have hx := hxC k hlt
                  have hq4 : q < 4 := by omega
                  have hR1 : R ≤ 1024 := by omega
                  rw [hR]
                  clear hR hq hc hpk hp0
                  generalize hxk : xC k = x at hcell hmod hx
                  clear hxk
                  subst ha
                  go_upto_if 233 with fail
                  have hcR : c ≤ R := by omega
                  have HCM : Hid (c = min q R) := hcm
                  clear hcm
                  go_cut [39] from 228 to 234 (fun y wx => y = .int .i64 (c : Int) ∧ wo = wx)
                  case first =>
                    by_cases hqR : R < q
                    · have : c = R := by have := HCM.out; omega
                      subst this
                      go_wp2
                      go_meet
                      case rel => exact ⟨rfl, rfl⟩
                    · have : c = q := by have := HCM.out; omega
                      subst this
                      go_wp2
                      go_meet
                      case rel => exact ⟨rfl, rfl⟩
                  case rest =>
                    obtain ⟨rfl, w1⟩ := hcut
                    subst w1
                    clear HCM hmod hcell
                    obtain ⟨R', hR'⟩ : ∃ R', R' = R - c := ⟨_, rfl⟩
                    have hsub : (R : Int) - (c : Int) = (R' : Int) := by omega
                    have HR : Hid (R' = R - c) := hR'
                    clear hR'
                    go_upto_if 241 with fail
                    go_cut [40] from 235 to 245 (fun y wx => y = .int .i64 (vv k) ∧ wo = wx)
                    case first =>
                      by_cases hkv : k < LV
                      · have hc := hV.later hb hkv
                        have ha := hV.ad (by omega)
                        have hv : Hid (vv k = xV k) := by show vv k = xV k; rw [hvv.out, vF, if_pos hkv]
                        subst ha
                        go_wp2
                        go_meet
                        case rel => exact ⟨by rw [hv.out], rfl⟩
                      · have hv : Hid (vv k = 0) := by show vv k = 0; rw [hvv.out, vF, if_neg hkv]
                        go_wp2
                        go_meet
                        case rel => exact ⟨by rw [hv.out], rfl⟩
                    case rest =>
                      obtain ⟨rfl, w1⟩ := hcut
                      subst w1
                      go_upto_if 252 with fail
                      go_cut [41] from 246 to 256 (fun y wx => y = .bool (oo k) ∧ wo = wx)
                      case first =>
                        by_cases hkv : k < LO
                        · have hc := hO.later hb hkv
                          have ha := hO.ad (by omega)
                          have hv : Hid (oo k = xO k) := by show oo k = xO k; rw [hoo.out, okF, if_pos hkv]
                          subst ha
                          go_wp2
                          go_meet
                          case rel => exact ⟨by rw [hv.out], rfl⟩
                        · have hv : Hid (oo k = decide ((k : Int) % 2 = 0)) := by show oo k = decide ((k : Int) % 2 = 0); rw [hoo.out, okF, if_neg hkv]
                          go_wp2
                          go_meet
                          case rel => exact ⟨by rw [hv.out]; rfl, rfl⟩
                      case rest =>
                        obtain ⟨rfl, w1⟩ := hcut
                        subst w1
                        obtain ⟨i0, hi, hz0, hz1, hz2⟩ := info_parts info38
                        go_wp2_with (at_builtin; refine wpList_append_fits _ rfl (.tmp 257) (.tmp 263) 30 rfl bS 38 i0 3 Yba.underlying30 hi hz1 bS k LC (spansF vv oo cnt k) rfl (hSk.alloc _) ⟨wo.heap.size, 0, none⟩ 1 1 (span3 (vv k) (oo k) c) rfl rfl ?c1 ?c2 (by omega) ?c3)
                        case c1 => exact span_cells wo _ _ _
                        case c2 =>
                          intro u hu
                          simp only [span3, List.mem_cons, List.not_mem_nil, or_false] at hu
                          rcases hu with rfl | rfl | rfl <;> rfl
                        case c3 =>
                          intro w1 hown1 hgrow
                          obtain ⟨hR, hpk, hc⟩ := HP.out
                          have hR' := HR.out
                          rw [← hc, ← spansF_succ] at hown1
                          have hKw : Kept bS (fun _ => False) wC w1 := (hKk.alloc (by omega) _).grown hgrow (by simp; omega) (fun j e => by simp at e; omega)
                          have hzw : bS < w1.heap.size := Nat.lt_of_lt_of_le hzk (by have := hgrow.size; simp at this; omega)
                          have hRR : LI - pos (k + 1) = R' := by omega
                          clear hSk hKk hgrow hb hR hpk hc hR' hzk
                          go_wp2
                          go_roundg (LC - (k + 1))
                          case measure => have := HK.out; omega
                          case rel => exact ⟨k + 1, by omega, rfl, by rw [hRR], rfl, hown1, hKw, hzw⟩
                · have hkL : LC = k := by omega
                  subst hkL
                  have hMD := hMC.kept (hKk.mono (by have h3 := hMC.o4; have := HBS.out; omega) (fun _ h => h))
                  have hPD : Blk wo bP 21 (intsR .i32 PL) := hPC.kept hKk (by have := HBS.out; omega) (fun h => h)
                  have hGD : ∀ i, i < LI → wo.cell? ⟨g1, i, none⟩ = some (.int .i32 (ps i : Int)) := fun i hi => by
                    rw [World.cell?_of_block (w := wC) (a := ⟨g1, i, none⟩) (hKk.block g1 (by have := HBS.out; omega) (fun h => h))]; exact hGC i hi
                  have hSD : ∀ j, j < LC * 3 → wo.cell? ⟨bS, j, none⟩ = (spansF vv oo cnt LC)[j]? := fun j hj => hSk.cellAt j hj
                  have ogD : bP < g1 ∧ g1 < bS := by have := HBS.out; omega
                  clear hMC hPC hGC hKk og HK hkl hlt hp0
                  go_wp2_with fail
                  refine (clone_span (spansF vv oo cnt LC) bS LC LC wo (spansF_len _ _ _ _) (by omega) hzk (fun j u hj => by rw [hSD j (by have := spansF_len vv oo cnt LC; have := (List.getElem?_eq_some_iff.1 hj).1; omega)]; exact hj) (spansF_one _ _ _ _)).mono ?_
                  rintro e wE ⟨g2, cap2, rfl, hown2, hB2⟩
                  have og2 := hown2.lt g2 rfl
                  have hME := hMD.kept (Kept.ofBelow (p := fun _ => False) hB2 (by have h3 := hMD.o4; omega))
                  have hPE : Blk wE bP 21 (intsR .i32 PL) := hPD.keep (hB2.block bP (by omega))
                  have hGE : ∀ i, i < LI → wE.cell? ⟨g1, i, none⟩ = some (.int .i32 (ps i : Int)) := fun i hi => by
                    rw [World.cell?_of_block (w := wo) (a := ⟨g1, i, none⟩) (hB2.block g1 (by omega))]; exact hGD i hi
                  have hSE : ∀ j, j < LC * 3 → wE.cell? ⟨bS, j, none⟩ = (spansF vv oo cnt LC)[j]? := fun j hj => by
                    rw [World.cell?_of_block (w := wo) (a := ⟨bS, j, none⟩) (hB2.block bS (by omega))]; exact hSD j hj
                  have hTE : ∀ j, j < LC * 3 → wE.cell? ⟨g2, j, none⟩ = (spansF vv oo cnt LC)[j]? := fun j hj => hown2.cellAt j hj
                  have ogE : bP < g1 ∧ g1 < bS ∧ bS < g2 ∧ g2 < wE.heap.size := by omega
                  clear hMD hPD hGD hSD ogD hown2 hB2 og2 hSk hzk oC hPLl hPLg
                  go_upto_region 61 with fail
                  obtain ⟨Z, hZ⟩ : ∃ Z, sz n ρ = Z := ⟨_, rfl⟩
                  have hpl : Plan vv oo cnt pos ps n f1 LC LI Z := by
                    rw [← hZ]
                    exact plan_mk hcnt.out hpos.out hps HPP.out hρ1 hn6 hf1 lI lC
                  obtain ⟨y2, hy2⟩ : ∃ y, y = X + 4 * ρ + 2 := ⟨_, rfl⟩
                  obtain ⟨y3, hy3⟩ : ∃ y, y = X + 4 * ρ + 3 := ⟨_, rfl⟩
                  have cE : wE.cell? ⟨bE, ρ, none⟩ = some (.slice (some ⟨y2, 0, none⟩) Z Z) := by rw [hME.hE.cell, mix_get _ _ _ _ _ (by omega), if_pos (by omega), sl, hZ, hy2]
                  have cF : wE.cell? ⟨bF, ρ, none⟩ = some (.slice (some ⟨y3, 0, none⟩) Z Z) := by rw [hME.hF.cell, mix_get _ _ _ _ _ (by omega), if_pos (by omega), sl, hZ, hy3]
                  have R2 := (hME.hr ρ (by omega)).2.2.1
                  have R3 := (hME.hr ρ (by omega)).2.2.2
                  rw [← hy2] at R2
                  rw [← hy3] at R3
                  obtain ⟨o1, o2, o3, o4, o5, o6⟩ := hME.o2
                  have hsX := hME.o4
                  have nE : bE ≠ y2 ∧ bE ≠ y3 := by omega
                  have nF : bF ≠ y2 ∧ bF ≠ y3 := by omega
                  have nS : bS ≠ y2 ∧ bS ≠ y3 := by have := HBX.out; omega
                  have nG : g1 ≠ y2 ∧ g1 ≠ y3 := by have := HBX.out; omega
                  have n23 : y3 ≠ y2 := by omega
                  have HY : Hid (y2 = X + 4 * ρ + 2 ∧ y3 = X + 4 * ρ + 3) := ⟨hy2, hy3⟩
                  have HZZ : Hid (sz n ρ = Z) := hZ
                  have hx1 : (rw0 ρ).1.length = Z := by rw [(hlen ρ).1, hZ]
                  have hx2 : (rw0 ρ).2.length = Z := by rw [(hlen ρ).2, hZ]
                  have hp0 := hpl.p0
                  clear hy2 hy3 hZ o1 o2 o3 o4 o5 o6 hsX
                  go_loopg [43, 270] LC (fun gk p i wr => ∃ k : Nat, k + gk = LC ∧ p = .int .i64 (pos k : Int) ∧ i = .int .i64 (k : Int) ∧
                      Blk wr y2 3 (intsR .i64 (outT vv oo cnt pos (fun i => ps i * n + f1) (rw0 ρ) k).1) ∧ Blk wr y3 4 (boolsR (outT vv oo cnt pos (fun i => ps i * n + f1) (rw0 ρ) k).2) ∧ Kept wE.heap.size (fun k => k = y2 ∨ k = y3) wE wr)
                  case atStart => exact ⟨0, by omega, by rw [hp0]; rfl, rfl, R2, R3, Kept.refl _ _ _⟩
                  case round =>
                    obtain ⟨k, hk, rfl, rfl, hhk, hgk, hKk⟩ := hrel
                    have HK : Hid (k + gk = LC) := hk
                    have hkl : k ≤ LC := by omega
                    clear hk R2 R3 hp0
                    by_cases hlt : k < LC
                    ·
                      obtain ⟨s0, s1, s2⟩ := spans_at hSE k hlt
                      have kb : ∀ b o u, b ≠ y2 → b ≠ y3 → wE.cell? ⟨b, o, none⟩ = some u → wr.cell? ⟨b, o, none⟩ = some u := fun b o u n1 n2 hc => by
                        rw [World.cell?_of_block (w := wE) (a := ⟨b, o, none⟩) (hKk.block b (World.block_lt_of_cell? _ _ hc) (by omega))]; exact hc
                      have s0' := kb _ _ _ nS.1 nS.2 s0
                      have s1' := kb _ _ _ nS.1 nS.2 s1
                      have s2' := kb _ _ _ nS.1 nS.2 s2
                      have hpk := hpl.ps1 k hlt
                      have hpll := hpl.pl (k + 1) (by omega)
                      rw [hpk] at hpll
                      obtain ⟨c, hc⟩ : ∃ c, cnt k = c := ⟨_, rfl⟩
                      obtain ⟨q, hq⟩ : ∃ q, pos k = q := ⟨_, rfl⟩
                      rw [hc] at s2' hpll hpk
                      rw [hq] at hpll hpk
                      have HC : Hid (cnt k = c ∧ pos k = q ∧ pos (k + 1) = q + c) := ⟨hc, hq, hpk⟩
                      rw [hq]
                      clear hc hq hpk s0 s1 s2
                      have hbS : bS < wr.heap.size := World.block_lt_of_cell? _ _ s0'
                      have hhl := (outT_len vv oo cnt pos (fun i => ps i * n + f1) (rw0 ρ) k).1.trans hx1
                      have hgl := (outT_len vv oo cnt pos (fun i => ps i * n + f1) (rw0 ρ) k).2.trans hx2
                      have hsz : wE.heap.size ≤ wr.heap.size := hKk.size
                      have hbh := hhk.lt
                      have hbg := hgk.lt
                      have cE' := kb _ _ _ nE.1 nE.2 cE
                      have cF' := kb _ _ _ nF.1 nF.2 cF
                      have hbE : bE < wr.heap.size := World.block_lt_of_cell? _ _ cE'
                      have hbF : bF < wr.heap.size := World.block_lt_of_cell? _ _ cF'
                      have hG' : ∀ i, i < LI → wr.cell? ⟨g1, i, none⟩ = some (.int .i32 (ps i : Int)) := fun i hi => kb _ _ _ nG.1 nG.2 (hGE i hi)
                      clear kb
                      go_upto_region 63 with fail
                      obtain ⟨wo, hwo⟩ : ∃ wo, wo = wr.alloc (.cells #[.int .i64 (vv k), .bool (oo k), .int .i64 (c : Int)] 38) := ⟨_, rfl⟩
                      rw [← hwo]
                      have t0 : wo.cell? ⟨wr.heap.size, 0, none⟩ = some (.int .i64 (vv k)) := by rw [hwo]; exact (Blk.made (w := wr) (e := 38) #[.int .i64 (vv k), .bool (oo k), .int .i64 (c : Int)]).cell 0
                      have t1 : wo.cell? ⟨wr.heap.size, 1, none⟩ = some (.bool (oo k)) := by rw [hwo]; exact (Blk.made (w := wr) (e := 38) #[.int .i64 (vv k), .bool (oo k), .int .i64 (c : Int)]).cell 1
                      have t2 : wo.cell? ⟨wr.heap.size, 2, none⟩ = some (.int .i64 (c : Int)) := by rw [hwo]; exact (Blk.made (w := wr) (e := 38) #[.int .i64 (vv k), .bool (oo k), .int .i64 (c : Int)]).cell 2
                      have hwb : Below wr.heap.size wr wo := by rw [hwo]; exact (Below.refl _ _).alloc (Nat.le_refl _) _
                      have hho : Blk wo y2 3 (intsR .i64 (outT vv oo cnt pos (fun i => ps i * n + f1) (rw0 ρ) k).1) := hhk.keep (hwb.block _ hbh)
                      have hgo : Blk wo y3 4 (boolsR (outT vv oo cnt pos (fun i => ps i * n + f1) (rw0 ρ) k).2) := hgk.keep (hwb.block _ hbg)
                      have hKo : Kept wE.heap.size (fun k => k = y2 ∨ k = y3) wE wo := by rw [hwo]; exact hKk.alloc hsz _
                      have cEo : wo.cell? ⟨bE, ρ, none⟩ = some (.slice (some ⟨y2, 0, none⟩) Z Z) := cell_later hwb cE'
                      have cFo : wo.cell? ⟨bF, ρ, none⟩ = some (.slice (some ⟨y3, 0, none⟩) Z Z) := cell_later hwb cF'
                      have hGo : ∀ i, i < LI → wo.cell? ⟨g1, i, none⟩ = some (.int .i32 (ps i : Int)) := fun i hi => cell_later hwb (hG' i hi)
                      obtain ⟨bt, hbt⟩ : ∃ bt, wr.heap.size = bt := ⟨_, rfl⟩
                      rw [hbt] at t0 t1 t2 hbh hbg hwb hsz ⊢
                      have hwo2 : bt < wo.heap.size := by rw [hwo]; simp [hbt]
                      clear hwo hbt hwb hhk hgk hKk cE' cF' hG' s0' s1' s2' hbS hbE hbF
                      by_cases hok : oo k = true
                      · have hout : outT vv oo cnt pos (fun i => ps i * n + f1) (rw0 ρ) (k + 1) = inn (fun j => ps (q + j) * n + f1) (vv k) c (outT vv oo cnt pos (fun i => ps i * n + f1) (rw0 ρ) k) := by
                          rw [outT, if_pos hok, HC.out.1, HC.out.2.1]
                        rw [hok] at t1
                        obtain ⟨y, hy⟩ : ∃ y, outT vv oo cnt pos (fun i => ps i * n + f1) (rw0 ρ) k = y := ⟨_, rfl⟩
                        rw [hy] at hout hho hgo hhl hgl
                        have HO : Hid (outT vv oo cnt pos (fun i => ps i * n + f1) (rw0 ρ) (k + 1) = inn (fun j => ps (q + j) * n + f1) (vv k) c y) := hout
                        clear hout hy hok
                        go_wp2
                        go_loopg [46] c (fun gj i wj => ∃ j : Nat, j + gj = c ∧ i = .int .i64 (j : Int) ∧ Blk wj y2 3 (intsR .i64 (inn (fun j => ps (q + j) * n + f1) (vv k) j y).1) ∧ Blk wj y3 4 (boolsR (inn (fun j => ps (q + j) * n + f1) (vv k) j y).2) ∧
                            Kept wE.heap.size (fun k => k = y2 ∨ k = y3) wE wj ∧ Kept wo.heap.size (fun k => k = y2 ∨ k = y3) wo wj)
                        case atStart => exact ⟨0, by omega, rfl, hho, hgo, hKo, Kept.refl _ _ _⟩
                        case round =>
                          obtain ⟨j, hj, rfl, hhj, hgj, hKj, hKj2⟩ := hrel
                          have HJ : Hid (j + gk = c) := hj
                          have hjl : j ≤ c := by omega
                          clear hj
                          have kb : ∀ b o u, b ≠ y2 → b ≠ y3 → wo.cell? ⟨b, o, none⟩ = some u → wr.cell? ⟨b, o, none⟩ = some u := fun b o u n1 n2 hc => by
                            rw [World.cell?_of_block (w := wo) (a := ⟨b, o, none⟩) (hKj2.block b (World.block_lt_of_cell? _ _ hc) (by omega))]; exact hc
                          have t0j := kb _ _ _ (by omega) (by omega) t0
                          have t2j := kb _ _ _ (by omega) (by omega) t2
                          by_cases hjc : j < c
                          · obtain ⟨e1, e2⟩ := inn_len (fun j => ps (q + j) * n + f1) (vv k) y j
                            obtain ⟨i1, hi1⟩ : ∃ i1, ps (q + j) = i1 := ⟨_, rfl⟩
                            have pj := kb _ _ _ nG.1 nG.2 (hGo (q + j) (by omega))
                            rw [hi1] at pj
                            obtain ⟨r, hr⟩ : ∃ r, q + j = r := ⟨_, rfl⟩
                            have hrI : (q : Int) + (j : Int) = (r : Int) := by omega
                            have hrL : r < LI := by omega
                            rw [hr] at pj
                            have hi5 : i1 ≤ 5 := by rw [← hi1]; exact hpl.hp (q + j) (by omega)
                            have hat := hpl.ha (q + j) (by omega)
                            rw [hi1] at hat
                            obtain ⟨M, hM⟩ : ∃ M, i1 * n = M := ⟨_, rfl⟩
                            rw [hM] at hat
                            have hsz36 := hpl.hz
                            have hMI : (i1 : Int) * (n : Int) = (M : Int) := by rw [← hM]; simp
                            have hat2 : (fun j => ps (q + j) * n + f1) j = M + f1 := by show ps (q + j) * n + f1 = _; rw [hi1, hM]
                            have HA : Hid ((fun j => ps (q + j) * n + f1) j = M + f1) := hat2
                            clear hat2 hi1 hM hr
                            have hc1 : wr.cell? ⟨y2, M + f1, none⟩ = some (.int .i64 ((inn (fun j => ps (q + j) * n + f1) (vv k) j y).1.getD (M + f1) 0)) := by rw [hhj.cell, intsR_get _ _ _ (by omega)]
                            have hc2 : wr.cell? ⟨y3, M + f1, none⟩ = some (.bool ((inn (fun j => ps (q + j) * n + f1) (vv k) j y).2.getD (M + f1) false)) := by rw [hgj.cell, boolsR_get _ _ (by omega)]
                            have hf1 := hhj.free (M + f1)
                            have hf2 := hgj.free (M + f1)
                            have cEj := kb _ _ _ nE.1 nE.2 cEo
                            have cFj := kb _ _ _ nF.1 nF.2 cFo
                            have nF2 := nF.1
                            clear kb hGo
                            have hwr : IntKind.i64.wrap (ρ : Int) = (ρ : Int) := by rw [IntKind.wrap_i64]; omega
                            have hρ2 : (ρ : Int) < 2 := by omega
                            generalize ((inn (fun j => ps (q + j) * n + f1) (vv k) j y).1.getD (M + f1) 0) = d1 at hc1
                            generalize ((inn (fun j => ps (q + j) * n + f1) (vv k) j y).2.getD (M + f1) false) = d2 at hc2
                            go_upto_region 68 with fail
                            go_cut [] from 283 to 304 (fun wx => wx = (wr.setCell ⟨y2, M + f1, none⟩ (.int .i64 (vv k))).drew)
                            case first =>
                              go_region
                              all_goals go_wp2
                              go_meet
                              case rel => rfl
                            case rest =>
                              subst hcut
                              have hc2' : (wr.setCell ⟨y2, M + f1, none⟩ (.int .i64 (vv k))).drew.cell? ⟨y3, M + f1, none⟩ = some (.bool d2) := by go_simp
                              go_wp2
                              go_roundg (c - (j + 1))
                              case measure => have := HJ.out; omega
                              case rel =>
                                have hin1 : (inn (fun j => ps (q + j) * n + f1) (vv k) (j + 1) y).1 = (inn (fun j => ps (q + j) * n + f1) (vv k) j y).1.set (M + f1) (vv k) := by rw [inn, HA.out]
                                have hin2 : (inn (fun j => ps (q + j) * n + f1) (vv k) (j + 1) y).2 = (inn (fun j => ps (q + j) * n + f1) (vv k) j y).2.set (M + f1) true := by rw [inn, HA.out]
                                refine ⟨j + 1, by omega, by go_num, ?_, ?_, ?_, ?_⟩
                                · rw [hin1, ← intsR_set]
                                  exact (hhj.set (M + f1) _).other (a := ⟨y3, M + f1, none⟩) (by show y2 ≠ y3; omega) _
                                · rw [hin2, ← boolsR_set]
                                  exact (hgj.other (a := ⟨y2, M + f1, none⟩) (by show y3 ≠ y2; omega) _).set (M + f1) _
                                · exact ((hKj.setCell (x := ⟨y2, M + f1, none⟩) (Or.inl (Or.inl rfl)) _).setCell (x := ⟨y3, M + f1, none⟩) (Or.inl (Or.inr rfl)) _).drew
                                · exact ((hKj2.setCell (x := ⟨y2, M + f1, none⟩) (Or.inl (Or.inl rfl)) _).setCell (x := ⟨y3, M + f1, none⟩) (Or.inl (Or.inr rfl)) _).drew
                          · have hje : j = c := by omega
                            rw [hje] at hhj hgj
                            have hpn : pos (k + 1) = q + c := HC.out.2.2
                            have HPN : Hid (pos (k + 1) = q + c) := hpn
                            clear hpn kb
                            go_wp2
                            go_roundg (LC - (k + 1))
                            case measure => have := HK.out; omega
                            case rel => exact ⟨k + 1, by omega, by rw [HPN.out]; go_num, by go_num, by rw [HO.out]; exact hhj, by rw [HO.out]; exact hgj, hKj⟩
                      · have hokf : oo k = false := by simpa using hok
                        have hout : outT vv oo cnt pos (fun i => ps i * n + f1) (rw0 ρ) (k + 1) = outT vv oo cnt pos (fun i => ps i * n + f1) (rw0 ρ) k := by rw [outT, if_neg hok]
                        have HO : Hid (outT vv oo cnt pos (fun i => ps i * n + f1) (rw0 ρ) (k + 1) = outT vv oo cnt pos (fun i => ps i * n + f1) (rw0 ρ) k) := hout
                        rw [hokf] at t1
                        have hpn : pos (k + 1) = q + c := HC.out.2.2
                        have HPN : Hid (pos (k + 1) = q + c) := hpn
                        clear hok hokf hout hpn
                        go_wp2
                        go_roundg (LC - (k + 1))
                        case measure => have := HK.out; omega
                        case rel => exact ⟨k + 1, by omega, by rw [HPN.out]; go_num, by go_num, by rw [HO.out]; exact hho, by rw [HO.out]; exact hgo, hKo⟩
                    · have hkL : LC = k := by omega
                      subst hkL
                      obtain ⟨fin, hfin⟩ : ∃ fin, outT vv oo cnt pos (fun i => ps i * n + f1) (rw0 ρ) LC = fin := ⟨_, rfl⟩
                      rw [hfin] at hhk hgk
                      have HFIN : Hid (outT vv oo cnt pos (fun i => ps i * n + f1) (rw0 ρ) LC = fin) := hfin
                      obtain ⟨er, her⟩ : ∃ er : Nat → Pair, er = fun i => if i = ρ then fin else rw0 i := ⟨_, rfl⟩
                      have er1 : er ρ = fin := by rw [her]; exact if_pos rfl
                      have er2 : ∀ j, j < 2 → j ≠ ρ → er j = rw0 j := fun j _ hj => by rw [her]; exact if_neg hj
                      have erl : ∀ i, (er i).1.length = sz n i ∧ (er i).2.length = sz n i := by
                        intro i
                        by_cases e : i = ρ
                        · subst e
                          have hl := outT_len vv oo cnt pos (fun i => ps i * n + f1) (rw0 i) LC
                          rw [hfin] at hl
                          rw [er1]
                          exact ⟨hl.1.trans (hlen i).1, hl.2.trans (hlen i).2⟩
                        · rw [her]
                          simp only [if_neg e]
                          exact hlen i
                      obtain ⟨hy2, hy3⟩ := HY.out
                      have hoX := hME.o4
                      have hbX := HBX.out
                      have hMF : Mem w wr w.heap.size bN bE bF X bH bG bT n 2 rw0 er := by
                        refine hME.upd ρ (hKk.mono hME.o4 (fun b hb => by omega)) (by omega) ?_ ?_ ?_ ?_ (fun _ _ _ => rfl) er2
                        · exact (hME.hr ρ (by omega)).1.kept hKk (by omega) (by omega)
                        · exact (hME.hr ρ (by omega)).2.1.kept hKk (by omega) (by omega)
                        · rw [er1, ← hy2]; exact hhk
                        · rw [er1, ← hy3]; exact hgk
                      have hPF : Blk wr bP 21 (intsR .i32 PL) := hPE.kept hKk (by omega) (by omega)
                      have hGF : ∀ i, i < LI → wr.cell? ⟨g1, i, none⟩ = some (.int .i32 (ps i : Int)) := fun i hi => by
                        rw [World.cell?_of_block (w := wE) (a := ⟨g1, i, none⟩) (hKk.block g1 (by omega) (by omega))]; exact hGE i hi
                      have hSF : ∀ j, j < LC * 3 → wr.cell? ⟨bS, j, none⟩ = (spansF vv oo cnt LC)[j]? := fun j hj => by
                        rw [World.cell?_of_block (w := wE) (a := ⟨bS, j, none⟩) (hKk.block bS (by omega) (by omega))]; exact hSE j hj
                      have hTF : ∀ j, j < LC * 3 → wr.cell? ⟨g2, j, none⟩ = (spansF vv oo cnt LC)[j]? := fun j hj => by
                        rw [World.cell?_of_block (w := wE) (a := ⟨g2, j, none⟩) (hKk.block g2 (by omega) (by omega))]; exact hTE j hj
                      have hpc : ∀ i, i < LI → (intsR .i32 PL)[i]? = some (.int .i32 (ps i : Int)) := by
                        intro i hi
                        have hPL := HPL.out
                        have hPLl : PL.length = LI := by rw [hPL, mix_len]
                        rw [intsR_get _ _ _ (by rw [hPLl]; exact hi), List.getD_eq_getElem?_getD, hPL, mix_get _ _ _ _ _ hi, if_pos hi]
                        rfl
                      have oF : bP < g1 ∧ g1 < bS ∧ bS < g2 ∧ g2 < wr.heap.size := by have := hKk.size; omega
                      have hZ := HZZ.out
                      have N1 : wr.cell? ⟨bN, 1, none⟩ = some (.int .i64 (n : Int)) := (hMF.hN.cell 1).trans rfl
                      have N4 : wr.cell? ⟨bN, 4, none⟩ = some (.slice (some ⟨bH, 0, none⟩) 2 2) := (hMF.hN.cell 4).trans rfl
                      have N5 : wr.cell? ⟨bN, 5, none⟩ = some (.slice (some ⟨bG, 0, none⟩) 2 2) := (hMF.hN.cell 5).trans rfl
                      have H1 : wr.cell? ⟨bH, ρ, none⟩ = some (.slice (some ⟨X + 4 * ρ, 0, none⟩) Z Z) := by rw [hMF.hH.cell, mix_get _ _ _ _ _ (by omega), if_pos (by omega), sl, hZ]
                      have G1 : wr.cell? ⟨bG, ρ, none⟩ = some (.slice (some ⟨X + 4 * ρ + 1, 0, none⟩) Z Z) := by rw [hMF.hG.cell, mix_get _ _ _ _ _ (by omega), if_pos (by omega), sl, hZ]
                      obtain ⟨o1, o2, o3, o4, o5, o6⟩ := hMF.o2
                      have hcon := store_any vv oo cnt pos ps n f1 ρ LC LI Z hpl (rw0 ρ) hx1 hx2 hρ1 bN bH bG (X + 4 * ρ) (X + 4 * ρ + 1) bS bP LC (some ⟨bS, 0, none⟩) wr N1 N4 N5 H1 G1 (hMF.hr ρ (by omega)).1 (hMF.hr ρ (by omega)).2.1 (fun _ => rfl)
                        (fun k hk => spans_at hSF k hk) (fun i hi => by rw [hPF.cell]; exact hpc i hi) (by omega) (by omega) (by omega) (by omega)
                      clear hME hPE hGE hSE hTE ogE hKk hhk hgk HK hkl hlt cE cF nE nF nS nG n23 hfin her hy2 hy3 N1 N4 N5 H1 G1 hoX HPL hxI hxC
                      have HBX2 : Hid (bP = X + 4 * 2) := hbX
                      have HZ2 : Hid (sz n ρ = Z) := hZ
                      clear hbX hZ
                      go_wp2_with fail
                      refine hcon.mono ?_
                      rintro e wG ⟨rfl, hh2, hg2, hK2⟩
                      rw [HFIN.out] at hh2 hg2
                      have hbX := HBX2.out
                      have hoX := hMF.o4
                      have hMG : Mem w wG w.heap.size bN bE bF X bH bG bT n 2 er er := by
                        refine hMF.upd ρ (hK2.mono hMF.o4 (fun b hb => by omega)) (by omega) ?_ ?_ ?_ ?_ er2 (fun _ _ _ => rfl)
                        · rw [er1]; exact hh2
                        · rw [er1]; exact hg2
                        · exact (hMF.hr ρ (by omega)).2.2.1.kept hK2 (by omega) (by omega)
                        · exact (hMF.hr ρ (by omega)).2.2.2.kept hK2 (by omega) (by omega)
                      have hPG : ∀ i, i < LI → wG.cell? ⟨bP, i, none⟩ = some (.int .i32 (ps i : Int)) := fun i hi => by
                        rw [World.cell?_of_block (w := wr) (a := ⟨bP, i, none⟩) (hK2.block bP (by omega) (by omega)), hPF.cell]; exact hpc i hi
                      have hGG : ∀ i, i < LI → wG.cell? ⟨g1, i, none⟩ = some (.int .i32 (ps i : Int)) := fun i hi => by
                        rw [World.cell?_of_block (w := wr) (a := ⟨g1, i, none⟩) (hK2.block g1 (by omega) (by omega))]; exact hGF i hi
                      have hSG : ∀ j, j < LC * 3 → wG.cell? ⟨bS, j, none⟩ = (spansF vv oo cnt LC)[j]? := fun j hj => by
                        rw [World.cell?_of_block (w := wr) (a := ⟨bS, j, none⟩) (hK2.block bS (by omega) (by omega))]; exact hSF j hj
                      have hTG : ∀ j, j < LC * 3 → wG.cell? ⟨g2, j, none⟩ = (spansF vv oo cnt LC)[j]? := fun j hj => by
                        rw [World.cell?_of_block (w := wr) (a := ⟨g2, j, none⟩) (hK2.block g2 (by omega) (by omega))]; exact hTF j hj
                      have HALL : Hid ((∀ i, i < LI → wG.cell? ⟨bP, i, none⟩ = some (.int .i32 (ps i : Int))) ∧ (∀ i, i < LI → wG.cell? ⟨g1, i, none⟩ = some (.int .i32 (ps i : Int))) ∧ (∀ j, j < LC * 3 → wG.cell? ⟨bS, j, none⟩ = (spansF vv oo cnt LC)[j]?) ∧ (∀ j, j < LC * 3 → wG.cell? ⟨g2, j, none⟩ = (spansF vv oo cnt LC)[j]?)) := ⟨hPG, hGG, hSG, hTG⟩
                      have HERL : Hid (∀ i, (er i).1.length = sz n i ∧ (er i).2.length = sz n i) := erl
                      clear hMF hK2 hPF hGF hSF hTF hPG hGG hSG hTG hpc oF hbX hoX hh2 hg2 er1 er2 erl o1 o2 o3 o4 o5 o6 hlen HFIN HZ2 HZZ HY hx1 hx2 hcon hpl
                      go_wp2
                      go_loopg [48] 2 (fun gk i wr => ∃ k : Nat, k + gk = 2 ∧ i = .int .i64 (k : Int) ∧ ∃ d, wr = wG.drewN d)
                      case atStart => exact ⟨0, by omega, rfl, 0, rfl⟩
                      case round =>
                        obtain ⟨k, hk, rfl, d, hd⟩ := hrel
                        have HK : Hid (k + gk = 2) := hk
                        have hkl : k ≤ 2 := by omega
                        clear hk
                        by_cases hlt : k < 2
                        · have hMr : Mem w wr w.heap.size bN bE bF X bH bG bT n 2 er er := by rw [hd]; exact hMG.kept ((Kept.refl _ _ _).drewN d)
                          have HD : Hid (wr = wG.drewN d) := hd
                          clear hd
                          obtain ⟨S, hS⟩ : ∃ S, sz n k = S := ⟨_, rfl⟩
                          have hS36 : S ≤ 36 := by
                            rw [← hS]
                            unfold sz
                            split
                            · omega
                            · exact Nat.le_trans (Nat.mul_le_mul hn6 hn6) (by omega)
                          obtain ⟨R0, R1, R2, R3⟩ := hMr.hr k hlt
                          obtain ⟨y0, hy0⟩ : ∃ y, y = X + 4 * k := ⟨_, rfl⟩
                          obtain ⟨y1, hy1⟩ : ∃ y, y = X + 4 * k + 1 := ⟨_, rfl⟩
                          obtain ⟨y2', hy2⟩ : ∃ y, y = X + 4 * k + 2 := ⟨_, rfl⟩
                          obtain ⟨y3', hy3⟩ : ∃ y, y = X + 4 * k + 3 := ⟨_, rfl⟩
                          rw [← hy0] at R0
                          rw [← hy1] at R1
                          rw [← hy2] at R2
                          rw [← hy3] at R3
                          have cH : wr.cell? ⟨bH, k, none⟩ = some (.slice (some ⟨y0, 0, none⟩) S S) := by rw [hMr.hH.cell, mix_get _ _ _ _ _ hlt, if_pos hlt, sl, hS, hy0]
                          have cG : wr.cell? ⟨bG, k, none⟩ = some (.slice (some ⟨y1, 0, none⟩) S S) := by rw [hMr.hG.cell, mix_get _ _ _ _ _ hlt, if_pos hlt, sl, hS, hy1]
                          have cE : wr.cell? ⟨bE, k, none⟩ = some (.slice (some ⟨y2', 0, none⟩) S S) := by rw [hMr.hE.cell, mix_get _ _ _ _ _ hlt, if_pos hlt, sl, hS, hy2]
                          have cF : wr.cell? ⟨bF, k, none⟩ = some (.slice (some ⟨y3', 0, none⟩) S S) := by rw [hMr.hF.cell, mix_get _ _ _ _ _ hlt, if_pos hlt, sl, hS, hy3]
                          have N4 : wr.cell? ⟨bN, 4, none⟩ = some (.slice (some ⟨bH, 0, none⟩) 2 2) := (hMr.hN.cell 4).trans rfl
                          have N5 : wr.cell? ⟨bN, 5, none⟩ = some (.slice (some ⟨bG, 0, none⟩) 2 2) := (hMr.hN.cell 5).trans rfl
                          have hl1 : (er k).1.length = S := by rw [(HERL.out k).1, hS]
                          have hl2 : (er k).2.length = S := by rw [(HERL.out k).2, hS]
                          have E1 : Hid (∀ j, j < S → wr.cell? ⟨y0, j, none⟩ = some (.int .i64 ((er k).1.getD j 0))) := fun j hj => by rw [R0.cell, intsR_get _ _ _ (by omega)]
                          have E2 : Hid (∀ j, j < S → wr.cell? ⟨y2', j, none⟩ = some (.int .i64 ((er k).1.getD j 0))) := fun j hj => by rw [R2.cell, intsR_get _ _ _ (by omega)]
                          have E3 : Hid (∀ j, j < S → wr.cell? ⟨y1, j, none⟩ = some (.bool ((er k).2.getD j false))) := fun j hj => by rw [R1.cell, boolsR_get _ _ (by omega)]
                          have E4 : Hid (∀ j, j < S → wr.cell? ⟨y3', j, none⟩ = some (.bool ((er k).2.getD j false))) := fun j hj => by rw [R3.cell, boolsR_get _ _ (by omega)]
                          have hkI : (k : Int) < 2 := by omega
                          clear hS hy0 hy1 hy2 hy3 R0 R1 R2 R3 hl1 hl2
                          go_upto_region 76 with fail
                          go_quiet (first
                            | (go_at_call 7; exact Calls.quiet_of (equal_int (fun j => (er k).1.getD j 0) _ _ y0 y2' S S S _ (fun _ => rfl) (fun _ => rfl) (by omega) (fun j hj => E1.out j hj) (fun j hj => E2.out j hj)))
                            | (go_at_call 8; exact Calls.quiet_of (equal_bool (fun j => (er k).2.getD j false) _ _ y1 y3' S S S _ (fun _ => rfl) (fun _ => rfl) (by omega) (fun j hj => E3.out j hj) (fun j hj => E4.out j hj))))
                          go_wp2
                          go_roundg (2 - (k + 1))
                          case measure => have := HK.out; omega
                          case rel => exact ⟨k + 1, by omega, by go_num, _, by rw [HD.out, World.drewN_drewN]⟩
                        · have hk2 : k = 2 := by omega
                          subst hk2 hd
                          have N0 : wG.cell? ⟨bN, 0, none⟩ = some (.int .i64 1) := (hMG.hN.cell 0).trans rfl
                          have N1 : wG.cell? ⟨bN, 1, none⟩ = some (.int .i64 (n : Int)) := (hMG.hN.cell 1).trans rfl
                          have N6 : wG.cell? ⟨bN, 6, none⟩ = some (.slice (some ⟨bT, 0, none⟩) 2 2) := (hMG.hN.cell 6).trans rfl
                          have T0 : wG.cell? ⟨bT, 0, none⟩ = some (.int .u64 0) := (hMG.hT.cell 0).trans rfl
                          have T1 : wG.cell? ⟨bT, 1, none⟩ = some (.int .u64 0) := (hMG.hT.cell 1).trans rfl
                          go_wp2_with fail
                          refine (equal_i32 (fun i => (ps i : Int)) _ _ bP g1 LI LI cap1 (wG.drewN d) (fun _ => rfl) (fun _ => rfl) (by omega) (fun j hj => HALL.out.1 j hj) (fun j hj => HALL.out.2.1 j hj)).mono ?_
                          rintro e _ ⟨rfl, m1, rfl⟩
                          go_wp2_with fail
                          refine (equal_span vv oo (fun i => (cnt i : Int)) _ _ bS g2 LC LC cap2 (wG.drewN (d + m1)) (fun _ => rfl) (fun _ => rfl) (by omega) (fun j hj => spans_at HALL.out.2.2.1 j hj) (fun j hj => spans_at HALL.out.2.2.2 j hj)).mono ?_
                          rintro e _ ⟨rfl, m2, rfl⟩
                          go_wp2
                          go_ret
                          exact ⟨rfl, hMG.hb.os, hMG.hb.tape, hMG.hb.output, hMG.hb.size, hMG.hb.block⟩
end Go.Proofs.Ybulkcgeu
