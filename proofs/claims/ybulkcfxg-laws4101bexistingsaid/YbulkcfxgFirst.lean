import Derived.Test.YbulkcfxgInv
import Derived.Deep.LoopGhost
import Derived.Deep.DeepCutAuto
namespace Go.Proofs.Ybulkcfxg
open Go.RowKit

theorem info57 : (Yba.prog.info? 57).map (fun i => (i.zero, i.size, i.bytes)) = some (some (.agg #[.int .u64 0, .int .u32 0, .int .u8 0, .int .u8 0, .int .u8 0, .int .u32 0]), 6, 24) := by kernel_rfl
theorem info3 : (Yba.prog.info? 3).map (fun i => (i.zero, i.size, i.bytes)) = some (some (.int .i64 0), 1, 8) := by kernel_rfl
theorem info49 : (Yba.prog.info? 49).map (fun i => (i.zero, i.size, i.bytes)) = some (some (.int .u64 0), 1, 8) := by kernel_rfl


theorem make57 (np : Nat) (h : np ≤ 2000) (w : World) : (Instr.makeSlice 24 (.int .i64 (np : Int)) (.int .i64 (np : Int))).run Yba.prog w = .ok (.slice (some ⟨w.heap.size, 0, none⟩) np np) (w.alloc (.cells (peersOf (List.replicate np 0)).toArray 57)) := by
  have := run_make_rows (P := Yba.prog) Yba.underlying24 info57 (peer6 0) rfl rfl (by omega) (by omega) np (by omega) w
  rw [this, flat_rep]; rfl
theorem make3 (np : Nat) (h : np ≤ 2000) (w : World) : (Instr.makeSlice 33 (.int .i64 (np : Int)) (.int .i64 (np : Int))).run Yba.prog w = .ok (.slice (some ⟨w.heap.size, 0, none⟩) np np) (w.alloc (.cells (ranksOf (List.replicate np 0)).toArray 3)) := by
  have := run_make_rows (P := Yba.prog) Yba.underlying33 info3 [.int .i64 0] rfl rfl (by omega) (by omega) np (by omega) w
  rw [this]
  have e := flat_rep_one (fun x : Nat => Value.int .i64 (x : Int)) 0 np
  have e2 : ((0 : Nat) : Int) = 0 := rfl
  rw [e2] at e
  rw [e]; rfl
theorem make49 (np : Nat) (h : np ≤ 2000) (w : World) : (Instr.makeSlice 46 (.int .i64 (np : Int)) (.int .i64 (np : Int))).run Yba.prog w = .ok (.slice (some ⟨w.heap.size, 0, none⟩) np np) (w.alloc (.cells (marksOf (List.replicate np 0)).toArray 49)) := by
  have := run_make_rows (P := Yba.prog) Yba.underlying46 info49 [.int .u64 0] rfl rfl (by omega) (by omega) np (by omega) w
  rw [this]
  have e := flat_rep_one (fun x : Nat => Value.int .u64 (x : Int)) 0 np
  have e2 : ((0 : Nat) : Int) = 0 := rfl
  rw [e2] at e
  rw [e]; rfl

theorem inv_start (w : World) (np : Nat) :
    Inv w ((((w.alloc (.cells (peersOf (List.replicate np 0)).toArray 57)).alloc (.cells (clock27 (.slice (some ⟨w.heap.size, 0, none⟩) np np) (.slice none 0 0)).toArray 45)).alloc (.cells (ranksOf (List.replicate np 0)).toArray 3)).alloc (.cells (marksOf (List.replicate np 0)).toArray 49))
      w.heap.size np (List.replicate np 0) (List.replicate np 0) [] (.slice none 0 0) := by
  have s1 : (w.alloc (.cells (peersOf (List.replicate np 0)).toArray 57)).heap.size = w.heap.size + 1 := by simp
  refine ⟨?_, ?_, ?_, ?_, World.ownsRow_nil _ _ _ _, by simp, by simp, ?_, ?_, by simp⟩
  · have := ((Blk.made (w := w.alloc (.cells (peersOf (List.replicate np 0)).toArray 57)) (e := 45) (clock27 (.slice (some ⟨w.heap.size, 0, none⟩) np np) (.slice none 0 0)).toArray).alloc (.cells (ranksOf (List.replicate np 0)).toArray 3)).alloc (.cells (marksOf (List.replicate np 0)).toArray 49)
    rw [s1] at this
    exact this
  · exact (((Blk.made (w := w) (e := 57) (peersOf (List.replicate np 0)).toArray).alloc _).alloc _).alloc _
  · have := (Blk.made (w := (w.alloc (.cells (peersOf (List.replicate np 0)).toArray 57)).alloc (.cells (clock27 (.slice (some ⟨w.heap.size, 0, none⟩) np np) (.slice none 0 0)).toArray 45)) (e := 3) (ranksOf (List.replicate np 0)).toArray).alloc (.cells (marksOf (List.replicate np 0)).toArray 49)
    simpa using this
  · have := Blk.made (w := ((w.alloc (.cells (peersOf (List.replicate np 0)).toArray 57)).alloc (.cells (clock27 (.slice (some ⟨w.heap.size, 0, none⟩) np np) (.slice none 0 0)).toArray 45)).alloc (.cells (ranksOf (List.replicate np 0)).toArray 3)) (e := 49) (marksOf (List.replicate np 0)).toArray
    simpa using this
  · intro j hj h
    refine absurd ?_ h
    unfold List.getD
    rw [List.getElem?_replicate]
    simp [hj]
  · exact ((((Below.refl _ _).alloc (Nat.le_refl _) _).alloc (by simp) _).alloc (by simp; omega) _).alloc (by simp; omega) _

set_option maxRecDepth 100000 in
set_option maxHeartbeats 4000000 in
theorem first_walk (n np : Nat) (a1 : Option Addr) (b off len cap : Nat) (zs : List Int) (w : World) (ha : 0 < len → a1 = some ⟨b, off, none⟩) (hn : n ≤ 255) (hnp : (n : Int) % 64 + 1 = (np : Int)) (hlen : len ≤ 1024) (hzl : len ≤ zs.length)
    (hc : ∀ j, j < zs.length → w.cell? ⟨b, off + j, none⟩ = some (.int .u8 (zs.getD j 0))) (hz : ∀ j, j < zs.length → 0 ≤ zs.getD j 0 ∧ zs.getD j 0 ≤ 255) :
    Calls Yba.prog 3 #[.int .u8 (n : Int), .slice a1 len cap] w fun e w' => e = .returned (.bool true) ∧ Below w.heap.size w w' := by
  have hnp1 : np ≤ 64 := by omega
  have hnp0 : 1 ≤ np := by omega
  have hm1 := make57 np (by omega)
  have hm2 := make3 np (by omega)
  have hm3 := make49 np (by omega)
  go_enter Yba.func3, Yba.ntmps3
  go_wp2
  clear hm1 hm2 hm3
  go_loopg [9, 32] len (fun gk c i wr => ∃ (k : Nat) (r m ms : List Nat) (v : Value), k + gk = len ∧ i = .int .i64 (k : Int) ∧ c = .int .i64 (ms.length : Int) ∧ ms.length ≤ k ∧ Inv w wr w.heap.size np r m ms v)
  case atStart => exact ⟨0, _, _, [], _, by omega, rfl, rfl, by simp, inv_start w np⟩
  case round =>
    obtain ⟨k, r, m, ms, v, hk, rfl, rfl, hmk, hI⟩ := hrel
    have HK : Hid (k + gk = len) := hk
    have hkl : k ≤ len := by omega
    clear hk
    by_cases hlt : k < len
    · have hae := ha (by omega)
      clear ha
      subst hae
      obtain ⟨x, hx⟩ : ∃ x : Nat, zs.getD k 0 = (x : Int) := ⟨(zs.getD k 0).toNat, by have := hz k (by omega); omega⟩
      have hx255 : x ≤ 255 := by have := hz k (by omega); omega
      have hcx : wr.cell? ⟨b, off + k, none⟩ = some (.int .u8 (x : Int)) := by
        have h0 := hc k (by omega)
        rw [hx] at h0
        rw [hI.hb.cell (p := ⟨b, off + k, none⟩) (World.block_lt_of_cell? _ _ h0)]; exact h0
      have HX : Hid (zs.getD k 0 = (x : Int)) := hx
      clear hx hc hz
      obtain ⟨id, hidp⟩ : ∃ id : Nat, x % np = id := ⟨_, rfl⟩
      have hid : id < np := by rw [← hidp]; exact Nat.mod_lt _ (by omega)
      have hidm : (x : Int) % (np : Int) = (id : Int) := by rw [← hidp]; omega
      clear hidp
      obtain ⟨q, hq⟩ : ∃ q : Nat, r.getD id 0 = q := ⟨_, rfl⟩
      by_cases hq0 : q = 0
      · subst hq0
        have hms : ms.length ≤ 1024 := by omega
        have hP5 : (peersOf r)[id * 6 + 5]? = some (.int .u32 0) := by rw [peers_get r id 5 (by rw [hI.hr]; exact hid) (by omega), hq]; rfl
        go_wp2_with fail
        refine (out_new wr (w.heap.size + 1 + 1 + 1 + 1) (w.heap.size + 1) w.heap.size np id ms.length (outsOf ms) _ (peersOf r) v hid (by omega) (by omega) hI.hC hI.hP rfl rfl hP5 hI.hO (by omega) (by omega) (by omega) hI.hz).mono ?_
        rintro e w1 ⟨g, cap1, rfl, hg, hown1, hC1, hP1, hK1⟩
        have hR1 : Blk w1 (w.heap.size + 1 + 1) 3 (ranksOf r) := hI.hR.kept hK1 (by omega) (by omega)
        have hM1 : Blk w1 (w.heap.size + 1 + 1 + 1) 49 (marksOf m) := hI.hM.kept hK1 (by omega) (by omega)
        have cr : w1.cell? ⟨w.heap.size + 1 + 1, id, none⟩ = some (.int .i64 0) := by rw [hR1.cell id, ranks_get r id (by rw [hI.hr]; exact hid), hq]; rfl
        have fr := hR1.free id
        obtain ⟨mo, hmo⟩ : ∃ mo : Nat, m.getD id 0 = mo := ⟨_, rfl⟩
        have cm : w1.cell? ⟨w.heap.size + 1 + 1 + 1, id, none⟩ = some (.int .u64 (mo : Int)) := by rw [hM1.cell id, marks_get m id (by rw [hI.hm]; exact hid), hmo]
        have fm := hM1.free id
        have hol : (outsOf ms ++ out6 0).length = (ms.length + 1) * 6 := by simp [outs_len, out6]; omega
        have og : ∀ t, t < 6 → w1.cell? ⟨g, ms.length * 6 + t, none⟩ = (out6 0)[t]? := by
          intro t ht
          rw [hown1.cellAt (ms.length * 6 + t) (by omega), List.getElem?_append_right (by rw [outs_len]; omega), outs_len, show ms.length * 6 + t - ms.length * 6 = t by omega]
        have o0 : w1.cell? ⟨g, ms.length * 6, none⟩ = some (.int .u64 0) := og 0 (by omega)
        have o1 : w1.cell? ⟨g, ms.length * 6 + 1, none⟩ = some (.int .u64 0) := og 1 (by omega)
        have o2 : w1.cell? ⟨g, ms.length * 6 + 2, none⟩ = some (.int .u32 0) := og 2 (by omega)
        have o3 : w1.cell? ⟨g, ms.length * 6 + 3, none⟩ = some (.int .u8 0) := og 3 (by omega)
        have o4 : w1.cell? ⟨g, ms.length * 6 + 4, none⟩ = some (.int .u8 0) := og 4 (by omega)
        have o5 : w1.cell? ⟨g, ms.length * 6 + 5, none⟩ = some (.int .u8 0) := og 5 (by omega)
        have of0 := hown1.frozenAt (ms.length * 6)
        clear og hol
        go_upto_if 49 with fail
        go_cut [9] (fun c wx => c = .int .i64 ((ms.length + 1 : Nat) : Int) ∧ Inv w wx w.heap.size np (r.set id (ms.length + 1)) (m.set id (k + 1)) (ms ++ [k + 1]) (.slice (some ⟨g, 0, none⟩) (ms.length + 1) cap1))
        case first =>
          go_wp2
          go_meet
          case rel =>
            refine ⟨by go_num, ?_⟩
            exact inv_new hI hid hg hown1 hC1 hP1 hK1
        case rest =>
          obtain ⟨rfl, hI2⟩ := hcut
          have hrid : (r.set id (ms.length + 1)).getD id 0 = ms.length + 1 := by
            unfold List.getD
            rw [List.getElem?_set_self (by rw [hI.hr]; exact hid)]
            rfl
          have cr2 := hI2.rank hid hrid
          have c10 := hI2.c10
          have c15 := hI2.c15
          have hm2 : (ms ++ [k + 1]).length ≤ k + 1 := by simp; omega
          have hle : ∀ j, j < np → (r.set id (ms.length + 1)).getD j 0 ≤ 1025 := by
            intro j hj
            by_cases h0 : (r.set id (ms.length + 1)).getD j 0 = 0
            · omega
            · have := (hI2.hk j hj h0).1; omega
          have hcount : (ms ++ [k + 1]).length = ms.length + 1 := by simp
          generalize r.set id (ms.length + 1) = r2 at hI2 hle hrid
          generalize m.set id (k + 1) = m2 at hI2
          generalize ms ++ [k + 1] = ms2 at hI2 hm2 hcount
          clear hK1 hC1 hP1 hown1 hI cr fr cm fm o0 o1 o2 o3 o4 o5 of0 hR1 hM1 hP5
          have hwl : IntKind.i64.wrap (ms.length : Int) = (ms.length : Int) := by rw [IntKind.wrap_i64]; omega
          have hwm : (ms.length : Int) < (ms.length : Int) + 1 := by omega
          have hnq := run_neq_ptr
          go_wp2
          go_quiet (fail)
          clear hwl hwm hnq
          go_wp2
          go_loopg [14] np (fun gj j wj => ∃ i : Nat, i + gj = np ∧ j = .int .i64 (i : Int) ∧ ∃ d, wj = wc.drewN d)
          case atStart => exact ⟨0, by omega, rfl, _, rfl⟩
          case round =>
            obtain ⟨i, hij, rfl, d, rfl⟩ := hrel
            have HJ : Hid (i + gk = np) := hij
            have hil : i ≤ np := by omega
            clear hij
            by_cases hi : i < np
            · obtain ⟨q, hq2⟩ : ∃ q : Nat, r2.getD i 0 = q := ⟨_, rfl⟩
              have hq3 : q ≤ 1025 := by rw [← hq2]; exact hle i hi
              have ci := hI2.rank hi hq2
              obtain ⟨p0, p1, p2, p3, p4, p5⟩ := hI2.peer hi hq2
              have HQ : Hid (r2.getD i 0 = q) := hq2
              clear hq2
              go_wp2
              go_quiet (fail)
              go_wp2
              go_roundg (np - (i + 1))
              case measure => have := HJ.out; omega
              case rel => exact ⟨i + 1, by omega, by go_num, _, rfl⟩
            · go_wp2
              go_roundg (len - (k + 1))
              case measure => have := HK.out; omega
              case rel => exact ⟨k + 1, r2, m2, ms2, _, by omega, by go_num, by rw [hcount], hm2, hI2.drewN _⟩
      · obtain ⟨hqm, hqk⟩ := hI.hk id hid (by rw [hq]; exact hq0)
        rw [hq] at hqm hqk
        have hq1 : 1 ≤ q := by omega
        have hms : ms.length ≤ 1024 := by omega
        obtain ⟨g, cap1, hv⟩ : ∃ g cap, v = .slice (some ⟨g, 0, none⟩) ms.length cap := by
          rcases hI.hO.2 with ⟨_, h0⟩ | ⟨g, cap, _, hv, _⟩
          · omega
          · exact ⟨g, cap, hv⟩
        subst hv
        obtain ⟨mo, hmo⟩ : ∃ mo : Nat, m.getD id 0 = mo := ⟨_, rfl⟩
        have hqb : ((q : Int) == 0) = false := by simp; omega
        have c10 := hI.c10
        have c15 := hI.c15
        have cr := hI.rank hid hq
        have cm := hI.mark hid hmo
        obtain ⟨_, _, _, _, _, p5⟩ := hI.peer hid hq
        have o0 : wr.cell? ⟨g, (q - 1) * 6, none⟩ = some (.int .u64 (mo : Int)) := by
          rw [hI.hO.cellAt ((q - 1) * 6) (by omega)]
          have := outs_get ms (q - 1) 0 (by omega) (by omega)
          rw [Nat.add_zero] at this
          rw [this, hqk, hmo]
          rfl
        have hle : ∀ j, j < np → r.getD j 0 ≤ 1025 := by
          intro j hj
          by_cases h0 : r.getD j 0 = 0
          · omega
          · have := (hI.hk j hj h0).1; omega
        have hwl : IntKind.i64.wrap ((q : Int) - 1) = (q : Int) - 1 := by rw [IntKind.wrap_i64]; omega
        have HQ0 : Hid (r.getD id 0 = q ∧ m.getD id 0 = mo) := ⟨hq, hmo⟩
        clear hq hmo hqk
        go_wp2_with fail
        refine (out_old wr (w.heap.size + 1) w.heap.size np id g ms.length cap1 q hid (by omega) hq1 hqm (by omega) c10 p5 c15).mono ?_
        rintro e w1 ⟨rfl, d1, rfl⟩
        go_wp2
        go_quiet (fail)
        go_wp2
        have hnq := run_neq_ptr
        go_quiet (fail)
        clear hwl hnq cr cm p5 o0 hqb
        go_wp2
        obtain ⟨wo, rfl⟩ : ∃ wo : World, wo = wr := ⟨_, rfl⟩
        go_loopg [14] np (fun gj j wj => ∃ i : Nat, i + gj = np ∧ j = .int .i64 (i : Int) ∧ ∃ d, wj = wo.drewN d)
        case atStart => exact ⟨0, by omega, rfl, _, World.drewN_drewN _ _ _⟩
        case round =>
          obtain ⟨i, hij, rfl, d, rfl⟩ := hrel
          have HJ : Hid (i + gk = np) := hij
          have hil : i ≤ np := by omega
          clear hij
          by_cases hi : i < np
          · obtain ⟨q, hq2⟩ : ∃ q : Nat, r.getD i 0 = q := ⟨_, rfl⟩
            have hq3 : q ≤ 1025 := by rw [← hq2]; exact hle i hi
            have ci := hI.rank hi hq2
            obtain ⟨p0, p1, p2, p3, p4, p5⟩ := hI.peer hi hq2
            have HQ : Hid (r.getD i 0 = q) := hq2
            clear hq2
            go_wp2
            go_quiet (fail)
            go_wp2
            go_roundg (np - (i + 1))
            case measure => have := HJ.out; omega
            case rel => exact ⟨i + 1, by omega, by go_num, _, rfl⟩
          · go_wp2
            go_roundg (len - (k + 1))
            case measure => have := HK.out; omega
            case rel => exact ⟨k + 1, r, m, ms, _, by omega, by go_num, rfl, by omega, hI.drewN _⟩
    · go_wp2
      go_ret
      exact ⟨rfl, hI.hb⟩
end Go.Proofs.Ybulkcfxg
