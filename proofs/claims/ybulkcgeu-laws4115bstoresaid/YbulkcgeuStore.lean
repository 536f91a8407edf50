/-
  The contract of (*Node[int]).store.
-/
import Derived.Test.YbulkcgeuEq
namespace Go.Proofs.Ybulkcgeu
open Go.RowKit

/-- What the two loops are told: the spans, where each begins, the paths, the rows' size. -/
structure Plan (v : Nat → Int) (ok : Nat → Bool) (cnt pos ps : Nat → Nat) (n f1 m L sz : Nat) : Prop where
  p0 : pos 0 = 0
  ps1 : ∀ k, k < m → pos (k + 1) = pos k + cnt k
  pl : ∀ k, k ≤ m → pos k ≤ L
  ha : ∀ i, i < L → ps i * n + f1 < sz
  hn : n ≤ 6
  hL : L ≤ 1024
  hm : m ≤ 1024
  hz : sz ≤ 36
  hp : ∀ i, i < L → ps i ≤ 5
  hf : f1 ≤ 5

set_option maxRecDepth 100000 in
set_option maxHeartbeats 2000000 in
theorem store_any (v : Nat → Int) (ok : Nat → Bool) (cnt pos ps : Nat → Nat) (n f1 ρ m L sz : Nat) (hPl : Plan v ok cnt pos ps n f1 m L sz) (x : Pair) (hx1 : x.1.length = sz) (hx2 : x.2.length = sz) (hρ : ρ ≤ 1)
    (bN bH bG bh bg bS bP cS : Nat) (aS : Option Addr) (w : World)
    (N1 : w.cell? ⟨bN, 1, none⟩ = some (.int .i64 (n : Int))) (N4 : w.cell? ⟨bN, 4, none⟩ = some (.slice (some ⟨bH, 0, none⟩) 2 2)) (N5 : w.cell? ⟨bN, 5, none⟩ = some (.slice (some ⟨bG, 0, none⟩) 2 2))
    (H1 : w.cell? ⟨bH, ρ, none⟩ = some (.slice (some ⟨bh, 0, none⟩) sz sz)) (G1 : w.cell? ⟨bG, ρ, none⟩ = some (.slice (some ⟨bg, 0, none⟩) sz sz))
    (hh : Blk w bh 3 (intsR .i64 x.1)) (hg : Blk w bg 4 (boolsR x.2)) (haS : 0 < m → aS = some ⟨bS, 0, none⟩)
    (hS : ∀ k, k < m → w.cell? ⟨bS, k * 3, none⟩ = some (.int .i64 (v k)) ∧ w.cell? ⟨bS, k * 3 + 1, none⟩ = some (.bool (ok k)) ∧ w.cell? ⟨bS, k * 3 + 2, none⟩ = some (.int .i64 (cnt k : Int)))
    (hP : ∀ i, i < L → w.cell? ⟨bP, i, none⟩ = some (.int .i32 (ps i : Int))) (nN : bN ≠ bh ∧ bN ≠ bg) (nS : bS ≠ bh ∧ bS ≠ bg) (nP : bP ≠ bh ∧ bP ≠ bg) (ngh : bg ≠ bh) :
    Calls Yba.prog 6 #[.pointer (some ⟨bN, 0, none⟩), .int .i64 ((ρ : Int) + 1), .int .i64 ((f1 : Int) + 1), .slice aS m cS, .slice (some ⟨bP, 0, none⟩) L L] w fun e w' => e = .returned (.tuple #[]) ∧
      Blk w' bh 3 (intsR .i64 (outT v ok cnt pos (fun i => ps i * n + f1) x m).1) ∧ Blk w' bg 4 (boolsR (outT v ok cnt pos (fun i => ps i * n + f1) x m).2) ∧ Kept w.heap.size (fun k => k = bh ∨ k = bg) w w' := by
  have hL := hPl.hL
  have hm := hPl.hm
  have hwr : IntKind.i64.wrap (ρ : Int) = (ρ : Int) := by rw [IntKind.wrap_i64]; omega
  have hρ2 : (ρ : Int) < 2 := by omega
  go_enter Yba.func6, Yba.ntmps6
  go_wp2
  go_quiet (fail)
  clear N4 N5 H1 G1 hwr
  go_wp2
  go_loopg [4, 36] m (fun gk p4 i wr => ∃ (k : Nat) (ad : Option Addr), k + gk = m ∧ i = .int .i64 (k : Int) ∧ p4 = .slice ad (L - pos k) (L - pos k) ∧ (0 < L - pos k → ad = some ⟨bP, pos k, none⟩) ∧
      Blk wr bh 3 (intsR .i64 (outT v ok cnt pos (fun i => ps i * n + f1) x k).1) ∧ Blk wr bg 4 (boolsR (outT v ok cnt pos (fun i => ps i * n + f1) x k).2) ∧ Kept w.heap.size (fun k => k = bh ∨ k = bg) w wr)
  case atStart => exact ⟨0, _, by omega, rfl, by rw [hPl.p0]; rfl, fun _ => by rw [hPl.p0], hh, hg, (Kept.refl _ _ _).drewN _⟩
  case round =>
    obtain ⟨k, ad, hk, rfl, rfl, had, hhk, hgk, hKk⟩ := hrel
    have HK : Hid (k + gk = m) := hk
    have hkl : k ≤ m := by omega
    clear hk
    by_cases hlt : k < m
    · have hae := haS (by omega)
      clear haS
      subst hae
      obtain ⟨s0, s1, s2⟩ := hS k hlt
      have kb : ∀ b o u, b ≠ bh → b ≠ bg → w.cell? ⟨b, o, none⟩ = some u → wr.cell? ⟨b, o, none⟩ = some u := fun b o u n1 n2 hc => by
        rw [World.cell?_of_block (w := w) (a := ⟨b, o, none⟩) (hKk.block b (World.block_lt_of_cell? _ _ hc) (by omega))]; exact hc
      have s0' := kb _ _ _ nS.1 nS.2 s0
      have s1' := kb _ _ _ nS.1 nS.2 s1
      have s2' := kb _ _ _ nS.1 nS.2 s2
      have hpk := hPl.ps1 k hlt
      have hpl := hPl.pl (k + 1) (by omega)
      rw [hpk] at hpl
      obtain ⟨c, hc⟩ : ∃ c, cnt k = c := ⟨_, rfl⟩
      obtain ⟨q, hq⟩ : ∃ q, pos k = q := ⟨_, rfl⟩
      rw [hc] at s2' hpl hpk
      rw [hq] at hpl hpk had
      have HC : Hid (cnt k = c ∧ pos k = q ∧ pos (k + 1) = q + c) := ⟨hc, hq, hpk⟩
      rw [hq]
      obtain ⟨R, hR⟩ : ∃ R, L - q = R := ⟨_, rfl⟩
      rw [hR] at had
      rw [hR]
      have HR : Hid (L - q = R) := hR
      have hcR : c ≤ R := by omega
      have hqR : q + R ≤ L := by omega
      have hRL : R ≤ L := by omega
      clear hc hq hpk s0 s1 s2 hR
      have hbS : bS < wr.heap.size := World.block_lt_of_cell? _ _ s0'
      have hhl := (outT_len v ok cnt pos (fun i => ps i * n + f1) x k).1.trans hx1
      have hgl := (outT_len v ok cnt pos (fun i => ps i * n + f1) x k).2.trans hx2
      have hsz : w.heap.size ≤ wr.heap.size := hKk.size
      have hbh := hhk.lt
      have hbg := hgk.lt
      have N1' := kb _ _ _ nN.1 nN.2 N1
      have hbN : bN < wr.heap.size := World.block_lt_of_cell? _ _ N1'
      have hP' : ∀ i, i < L → wr.cell? ⟨bP, i, none⟩ = some (.int .i32 (ps i : Int)) := fun i hi => kb _ _ _ nP.1 nP.2 (hP i hi)
      clear kb hS hP N1
      have h4 : ∀ (w : World) (ad : Option Addr), (Instr.slice 31 (.slice ad 0 0) none (some (.int .i64 0)) none).run Yba.prog w = .ok (.slice ad 0 0) w := fun w ad => by cases ad <;> kernel_rfl
      have h5 : ∀ (w : World) (ad : Option Addr), (Instr.slice 31 (.slice ad 0 0) (some (.int .i64 0)) none none).run Yba.prog w = .ok (.slice ad 0 0) w := fun w ad => by cases ad <;> kernel_rfl
      go_upto_region 4 with fail
      obtain ⟨wo, hwo⟩ : ∃ wo, wo = wr.alloc (.cells #[.int .i64 (v k), .bool (ok k), .int .i64 (c : Int)] 38) := ⟨_, rfl⟩
      rw [← hwo]
      have t0 : wo.cell? ⟨wr.heap.size, 0, none⟩ = some (.int .i64 (v k)) := by rw [hwo]; exact (Blk.made (w := wr) (e := 38) #[.int .i64 (v k), .bool (ok k), .int .i64 (c : Int)]).cell 0
      have t1 : wo.cell? ⟨wr.heap.size, 1, none⟩ = some (.bool (ok k)) := by rw [hwo]; exact (Blk.made (w := wr) (e := 38) #[.int .i64 (v k), .bool (ok k), .int .i64 (c : Int)]).cell 1
      have t2 : wo.cell? ⟨wr.heap.size, 2, none⟩ = some (.int .i64 (c : Int)) := by rw [hwo]; exact (Blk.made (w := wr) (e := 38) #[.int .i64 (v k), .bool (ok k), .int .i64 (c : Int)]).cell 2
      have hwb : Below wr.heap.size wr wo := by rw [hwo]; exact (Below.refl _ _).alloc (Nat.le_refl _) _
      have hho : Blk wo bh 3 (intsR .i64 (outT v ok cnt pos (fun i => ps i * n + f1) x k).1) := hhk.keep (hwb.block _ hbh)
      have hgo : Blk wo bg 4 (boolsR (outT v ok cnt pos (fun i => ps i * n + f1) x k).2) := hgk.keep (hwb.block _ hbg)
      have hKo : Kept w.heap.size (fun k => k = bh ∨ k = bg) w wo := by rw [hwo]; exact hKk.alloc hsz _
      have N1o : wo.cell? ⟨bN, 1, none⟩ = some (.int .i64 (n : Int)) := by rw [hwb.cell (p := ⟨bN, 1, none⟩) hbN]; exact N1'
      have hPo : ∀ i, i < L → wo.cell? ⟨bP, i, none⟩ = some (.int .i32 (ps i : Int)) := fun i hi => cell_later hwb (hP' i hi)
      obtain ⟨bt, hbt⟩ : ∃ bt, wr.heap.size = bt := ⟨_, rfl⟩
      rw [hbt] at t0 t1 t2 hbh hbg hbN hwb hbS hsz ⊢
      have hwo2 : bt < wo.heap.size := by rw [hwo]; simp [hbt]
      clear hwo hbt hwb hhk hgk hKk N1' hP' s0' s1' s2'
      go_cut [14] from 40 to 43 (fun x14 wx => x14 = .slice ad c R ∧ wo = wx)
      case first =>
        by_cases hr0 : 0 < R
        · have hae := had hr0
          clear had
          subst hae
          go_wp2
          go_meet
          case rel => exact ⟨rfl, rfl⟩
        · have hc0 : c = 0 := by omega
          have hq0 : R = 0 := by omega
          subst hc0 hq0
          go_wp2
          go_meet
          case rel => exact ⟨rfl, rfl⟩
      case rest =>
        obtain ⟨rfl, rfl⟩ := hcut
        go_upto_region 5 with fail
        go_cut [4] from 44 to 47 (fun x4 wx => (∃ ad', x4 = .slice ad' (R - c) (R - c) ∧ (0 < R - c → ad' = some ⟨bP, q + c, none⟩)) ∧ wo = wx)
        case first =>
          by_cases hr0 : 0 < R
          · have hae := had hr0
            clear had
            subst hae
            by_cases hcr : c = R
            · subst hcr
              go_wp2
              go_meet
              case rel => exact ⟨⟨_, by rw [Nat.sub_self], fun h => by omega⟩, rfl⟩
            · have hcl : c < R := by omega
              clear hcr
              go_wp2
              go_meet
              case rel => exact ⟨⟨_, rfl, fun _ => rfl⟩, rfl⟩
          · have hc0 : c = 0 := by omega
            have hq0 : R = 0 := by omega
            subst hc0 hq0
            go_wp2
            go_meet
            case rel => exact ⟨⟨_, rfl, fun h => by omega⟩, rfl⟩
        case rest =>
          obtain ⟨⟨ad', rfl, had'⟩, rfl⟩ := hcut
          clear h4 h5
          have hposn : L - pos (k + 1) = R - c := by have := HC.out.2.2; have := HR.out; omega
          have HPN : Hid (L - pos (k + 1) = R - c) := hposn
          clear hposn
          by_cases hok : ok k = true
          · have hout : outT v ok cnt pos (fun i => ps i * n + f1) x (k + 1) = inn (fun j => ps (q + j) * n + f1) (v k) c (outT v ok cnt pos (fun i => ps i * n + f1) x k) := by
              rw [outT, if_pos hok, HC.out.1, HC.out.2.1]
            rw [hok] at t1
            obtain ⟨y, hy⟩ : ∃ y, outT v ok cnt pos (fun i => ps i * n + f1) x k = y := ⟨_, rfl⟩
            rw [hy] at hout hho hgo hhl hgl
            have HO : Hid (outT v ok cnt pos (fun i => ps i * n + f1) x (k + 1) = inn (fun j => ps (q + j) * n + f1) (v k) c y) := hout
            clear hout hy hok
            go_wp2
            go_loopg [54] c (fun gj i wj => ∃ j : Nat, j + gj = c ∧ i = .int .i64 (j : Int) ∧ Blk wj bh 3 (intsR .i64 (inn (fun j => ps (q + j) * n + f1) (v k) j y).1) ∧ Blk wj bg 4 (boolsR (inn (fun j => ps (q + j) * n + f1) (v k) j y).2) ∧
                Kept w.heap.size (fun k => k = bh ∨ k = bg) w wj ∧ Kept wo.heap.size (fun k => k = bh ∨ k = bg) wo wj)
            case atStart => exact ⟨0, by omega, rfl, hho, hgo, hKo, Kept.refl _ _ _⟩
            case round =>
              obtain ⟨j, hj, rfl, hhj, hgj, hKj, hKj2⟩ := hrel
              have HJ : Hid (j + gk = c) := hj
              have hjl : j ≤ c := by omega
              clear hj
              by_cases hjc : j < c
              · have hae := had (by omega)
                clear had
                subst hae
                have kb : ∀ b o u, b ≠ bh → b ≠ bg → wo.cell? ⟨b, o, none⟩ = some u → wr.cell? ⟨b, o, none⟩ = some u := fun b o u n1 n2 hc => by
                  rw [World.cell?_of_block (w := wo) (a := ⟨b, o, none⟩) (hKj2.block b (World.block_lt_of_cell? _ _ hc) (by omega))]; exact hc
                obtain ⟨e1, e2⟩ := inn_len (fun j => ps (q + j) * n + f1) (v k) y j
                obtain ⟨i1, hi1⟩ : ∃ i1, ps (q + j) = i1 := ⟨_, rfl⟩
                have pj := kb _ _ _ nP.1 nP.2 (hPo (q + j) (by omega))
                rw [hi1] at pj
                have hi5 : i1 ≤ 5 := by rw [← hi1]; exact hPl.hp (q + j) (by omega)
                have hat := hPl.ha (q + j) (by omega)
                rw [hi1] at hat
                obtain ⟨M, hM⟩ : ∃ M, i1 * n = M := ⟨_, rfl⟩
                rw [hM] at hat
                have hsz36 := hPl.hz
                have hMI : (i1 : Int) * (n : Int) = (M : Int) := by rw [← hM]; simp
                have hat2 : (fun j => ps (q + j) * n + f1) j = M + f1 := by show ps (q + j) * n + f1 = _; rw [hi1, hM]
                have HA : Hid ((fun j => ps (q + j) * n + f1) j = M + f1) := hat2
                clear hat2 hi1 hM
                have hc1 : wr.cell? ⟨bh, M + f1, none⟩ = some (.int .i64 ((inn (fun j => ps (q + j) * n + f1) (v k) j y).1.getD (M + f1) 0)) := by rw [hhj.cell, intsR_get _ _ _ (by omega)]
                have hc2 : wr.cell? ⟨bg, M + f1, none⟩ = some (.bool ((inn (fun j => ps (q + j) * n + f1) (v k) j y).2.getD (M + f1) false)) := by rw [hgj.cell, boolsR_get _ _ (by omega)]
                have hf1 := hhj.free (M + f1)
                have hf2 := hgj.free (M + f1)
                have t0j := kb _ _ _ (by omega) (by omega) t0
                have N1j := kb _ _ _ nN.1 nN.2 N1o
                clear kb hPo
                generalize ((inn (fun j => ps (q + j) * n + f1) (v k) j y).1.getD (M + f1) 0) = o1 at hc1
                generalize ((inn (fun j => ps (q + j) * n + f1) (v k) j y).2.getD (M + f1) false) = o2 at hc2
                go_wp2
                go_roundg (c - (j + 1))
                case measure => have := HJ.out; omega
                case rel =>
                  have hin1 : (inn (fun j => ps (q + j) * n + f1) (v k) (j + 1) y).1 = (inn (fun j => ps (q + j) * n + f1) (v k) j y).1.set (M + f1) (v k) := by rw [inn, HA.out]
                  have hin2 : (inn (fun j => ps (q + j) * n + f1) (v k) (j + 1) y).2 = (inn (fun j => ps (q + j) * n + f1) (v k) j y).2.set (M + f1) true := by rw [inn, HA.out]
                  refine ⟨j + 1, by omega, by go_num, ?_, ?_, ?_, ?_⟩
                  · rw [hin1, ← intsR_set]
                    exact (hhj.set (M + f1) _).other (a := ⟨bg, M + f1, none⟩) (by show bh ≠ bg; omega) _
                  · rw [hin2, ← boolsR_set]
                    exact (hgj.other (a := ⟨bh, M + f1, none⟩) (by show bg ≠ bh; omega) _).set (M + f1) _
                  · exact (hKj.setCell (x := ⟨bh, M + f1, none⟩) (Or.inl (Or.inl rfl)) _).setCell (x := ⟨bg, M + f1, none⟩) (Or.inl (Or.inr rfl)) _
                  · exact (hKj2.setCell (x := ⟨bh, M + f1, none⟩) (Or.inl (Or.inl rfl)) _).setCell (x := ⟨bg, M + f1, none⟩) (Or.inl (Or.inr rfl)) _
              · have hje : j = c := by omega
                rw [hje] at hhj hgj
                clear had
                go_wp2
                go_roundg (m - (k + 1))
                case measure => have := HK.out; omega
                case rel => exact ⟨k + 1, ad', by omega, by go_num, by rw [HPN.out], fun h => by rw [HPN.out] at h; rw [HC.out.2.2]; exact had' h, by rw [HO.out]; exact hhj, by rw [HO.out]; exact hgj, hKj⟩
          · have hokf : ok k = false := by simpa using hok
            have hout : outT v ok cnt pos (fun i => ps i * n + f1) x (k + 1) = outT v ok cnt pos (fun i => ps i * n + f1) x k := by rw [outT, if_neg hok]
            have HO : Hid (outT v ok cnt pos (fun i => ps i * n + f1) x (k + 1) = outT v ok cnt pos (fun i => ps i * n + f1) x k) := hout
            rw [hokf] at t1
            clear hok hokf hout
            go_wp2
            go_roundg (m - (k + 1))
            case measure => have := HK.out; omega
            case rel => exact ⟨k + 1, ad', by omega, by go_num, by rw [HPN.out], fun h => by rw [HPN.out] at h; rw [HC.out.2.2]; exact had' h, by rw [HO.out]; exact hho, by rw [HO.out]; exact hgo, hKo⟩
    · go_wp2
      go_end0
      have e : k = m := by omega
      rw [e] at hhk hgk
      exact ⟨rfl, hhk, hgk, hKk⟩
end Go.Proofs.Ybulkcgeu
