import Derived.Test.YbulkcfxgFmtSt
import Derived.Test.YbulkcfxgFmtLists
namespace Go.Proofs.YbulkcfxgFmt
open Go.RowKit Go.Extern.Stop Go.Stop Go.Extern

theorem info29 : (Ybaf.prog.info? 29).map (fun i => (i.zero, i.size, i.bytes)) = some (some (.pointer none), 1, 8) := by kernel_rfl
theorem make29 (n : Nat) (h : n ≤ 2000) (w : World) : (Instr.makeSlice 28 (.int .i64 (n : Int)) (.int .i64 (n : Int))).run Ybaf.prog w = .ok (.slice (some ⟨w.heap.size, 0, none⟩) n n) (w.alloc (.cells (List.replicate n (.pointer none)).toArray 29)) := by
  have := run_make_rows (P := Ybaf.prog) Ybaf.underlying28 info29 [.pointer none] rfl rfl (by omega) (by omega) n (by omega) w
  have e := flat_rep_one (fun x : Value => x) (.pointer none) n
  rw [List.map_id'] at e
  rw [this, e]

/-- Behind the call of actor: what came back (z: the last entry of the name; p, e: the two results) and the world. -/
def Back (wr wx : World) (B len : Nat) (nm : Nat → ByteArray) (lf : Nat → Int) (n : Int) (s : ByteArray) (z : Int) (p e : Value) : Prop :=
  (∃ i : Nat, i < len ∧ z = (i : Int) ∧ nm i = s ∧ lf i = 0 ∧ p = .pointer (some ⟨B + 1 + 1 + 1 + 1 + i, 0, none⟩) ∧ e = .nilIface ∧ wx = wr) ∨
  (∃ i k0 : Nat, i < len ∧ z = (i : Int) ∧ nm i = s ∧ lf i ≠ 0 ∧ p = .pointer none ∧ e = .iface 46 (.pointer (some ⟨k0, 0, none⟩)) ∧ Below wr.heap.size wr wx) ∨
  (z = -1 ∧ (∀ j, j < len → nm j ≠ s) ∧ p = .pointer (some ⟨wr.heap.size, 0, none⟩) ∧ e = .nilIface ∧ MapB wx (B + 1) (mput (procs nm (B + 1 + 1 + 1 + 1) len) s (.pointer (some ⟨wr.heap.size, 0, none⟩))) ∧
    Stored (B + 1) (wr.alloc (.cells #[.string s, .int .i64 n, .int .i64 0, .pointer none, .map none] 34)) wx)

theorem run_eq29 (w : World) (a : Addr) : (Op.equalIn 10000 29 (.pointer (some a)) (.pointer (some a))).run Ybaf.prog w = .ok true w := by
  have hs : (sizeOf 34).run Ybaf.prog w = .ok 5 w := by kernel_rfl
  rw [Op.equalIn]
  simp [run_underlying Ybaf.underlying29, sameAddr, hs]
theorem run_neq29 (w : World) (a : Addr) : (binOp .neq 29 (.pointer (some a)) (.pointer (some a))).run Ybaf.prog w = .ok (.bool false) w := by
  simp only [binOp]
  simp [Op.equal, Op.maxDepth, run_eq29 w a]
theorem run_neq32 (w : World) : (binOp .neq 32 (.map none) (.map none)).run Ybaf.prog w = .ok (.bool false) w := run_neq_map_nil w 32 29 4 none Ybaf.underlying32

/-- What the last loop looks at. -/
structure Fin (w0 w : World) (B len : Nat) (nm : Nat → ByteArray) (nd lf : Nat → Int) : Prop where
  hT : Blk w (B + 1 + 1) 27 [.map (some B), .map (some (B + 1))]
  hM : ∃ l, MapB w (B + 1) l ∧ ∀ i, i < len → mget l (nm i) = mget (procs nm (B + 1 + 1 + 1 + 1) len) (nm i)
  hQ : Blk w (B + 1 + 1 + 1) 29 (mix (pp (B + 1 + 1 + 1 + 1)) (fun _ => .pointer none) len len)
  hS : ∀ j, j < len → Blk w (B + 1 + 1 + 1 + 1 + j) 34 (proc5 (nm j) (nd j) (lf j))
  hb : Below B w0 w

set_option maxRecDepth 100000 in
set_option maxHeartbeats 4000000 in
theorem law_walk (F : Interp) (nm : Nat → ByteArray) (nd lf : Nat → Int) (n : Int) (q : ByteArray) (pk : Nat) (a : Option Addr) (b off len cap : Nat) (w : World) (hF : F.answers w.tape) (ha : 0 < len → a = some ⟨b, off, none⟩) (hlen : len ≤ 1024) (hpk : pk ≤ 255)
    (hc0 : ∀ j, j < len → w.cell? ⟨b, off + j * 3, none⟩ = some (.string (nm j))) (hc1 : ∀ j, j < len → w.cell? ⟨b, off + j * 3 + 1, none⟩ = some (.int .i64 (lf j))) (hc2 : ∀ j, j < len → w.cell? ⟨b, off + j * 3 + 2, none⟩ = some (.int .i64 (nd j))) :
    Calls Ybaf.prog 3 #[.slice a len cap, .int .i64 n, .string q, .int .u8 (pk : Int)] w fun e w' => e = .returned (.bool true) ∧ Below w.heap.size w w' := by
  have hmk := make29 len (by omega)
  have hmm := @run_makeMap Ybaf.prog
  go_enter Ybaf.func3, Ybaf.ntmps3
  go_wp2
  clear hmk hmm
  go_loopg [34] len (fun gk i wr => ∃ k : Nat, k + gk = len ∧ i = .int .i64 (k : Int) ∧ St w wr w.heap.size len k nm nd lf)
  case atStart => exact ⟨0, by omega, rfl, st_start w len nm nd lf⟩
  case round =>
    obtain ⟨k, hk, rfl, hS⟩ := hrel
    have HK : Hid (k + gk = len) := hk
    have hkl : k ≤ len := by omega
    clear hk
    by_cases hlt : k < len
    ·
      have hae := ha (by omega)
      clear ha
      subst hae
      have hbb : b < w.heap.size := World.block_lt_of_cell? _ _ (hc0 k hlt)
      have e0 : wr.cell? ⟨b, off + k * 3, none⟩ = some (.string (nm k)) := by rw [hS.hb.cell (p := ⟨b, off + k * 3, none⟩) hbb]; exact hc0 k hlt
      have e1 : wr.cell? ⟨b, off + k * 3 + 1, none⟩ = some (.int .i64 (lf k)) := by rw [hS.hb.cell (p := ⟨b, off + k * 3 + 1, none⟩) hbb]; exact hc1 k hlt
      have e2 : wr.cell? ⟨b, off + k * 3 + 2, none⟩ = some (.int .i64 (nd k)) := by rw [hS.hb.cell (p := ⟨b, off + k * 3 + 2, none⟩) hbb]; exact hc2 k hlt
      have t1 : wr.cell? ⟨w.heap.size + 1 + 1, 1, none⟩ = some (.map (some (w.heap.size + 1))) := (hS.hT.cell 1).trans rfl
      have q0 : wr.cell? ⟨w.heap.size + 1 + 1 + 1, k, none⟩ = some (.pointer none) := by rw [hS.hQ.cell k, mix_get _ _ _ _ _ hlt, if_neg (by omega)]
      have q1 := hS.hQ.free k
      have hsz3 : w.heap.size + 1 + 1 + 1 < wr.heap.size := by rw [hS.hz]; omega
      have hsz2 : w.heap.size + 1 + 1 < wr.heap.size := by omega
      have hszb : b < wr.heap.size := by omega
      have hmW : MapB (((wr.setCell ⟨w.heap.size + 1 + 1 + 1, k, none⟩ (.pointer (some ⟨wr.heap.size, 0, none⟩))).alloc (.cells #[.string (nm k), .int .i64 (nd k), .int .i64 (lf k), .pointer none, .map none] 34)).drew.drew) (w.heap.size + 1) (procs nm (w.heap.size + 1 + 1 + 1 + 1) k) :=
        hS.hM.keep (by
          show ((wr.setCell ⟨w.heap.size + 1 + 1 + 1, k, none⟩ (.pointer (some ⟨wr.heap.size, 0, none⟩))).alloc (.cells #[.string (nm k), .int .i64 (nd k), .int .i64 (lf k), .pointer none, .map none] 34)).heap[w.heap.size + 1]? = _
          rw [Below.heap_alloc _ _ _ (by simp [World.setCell]; omega), Below.heap_setCell _ _ _ _ (by show w.heap.size + 1 ≠ w.heap.size + 1 + 1 + 1; omega)])
      obtain ⟨X, hX, hmX, hsX⟩ := hmW.update Ybaf.underlying25 Ybaf.underlying9 (nm k) (.pointer (some ⟨wr.heap.size, 0, none⟩))
      clear hmW
      go_wp2
      go_region
      all_goals go_upto_region 10 with fail
      all_goals go_region
      all_goals go_wp2
      all_goals go_roundg (len - (k + 1))
      case measure => have := HK.out; omega
      case rel => exact ⟨k + 1, by omega, by go_num, st_step hS hlt hmX ⟨hsX.os, hsX.tape, hsX.output, hsX.size, hsX.block⟩⟩
    · have hS1 : St w wr w.heap.size len len nm nd lf := by
        have e : k = len := by omega
        rw [e] at hS; exact hS
      clear hS HK
      go_upto_region 13 with fail
      obtain ⟨wo, rfl⟩ : ∃ wo : World, wo = wr := ⟨_, rfl⟩
      go_cut [77] from 70 to 77 (fun c wx => ∃ t : Bool, c = .bool t ∧ (t = true → 0 < len) ∧ wo = wx)
      case first =>
        by_cases h1 : pk % 2 = 0
        · have h1b : (((pk : Int) % 2) == 0) = true := by simp; omega
          by_cases h2 : 0 < len
          · go_wp2
            go_meet
            case rel => exact ⟨true, rfl, fun _ => h2, rfl⟩
          · go_wp2
            go_meet
            case rel => exact ⟨false, rfl, (fun h => by cases h), rfl⟩
        · have h1b : (((pk : Int) % 2) == 0) = false := by simp; omega
          go_wp2
          go_meet
          case rel => exact ⟨false, rfl, (fun h => by cases h), rfl⟩
      case rest =>
        obtain ⟨t, rfl, ht, rfl⟩ := hcut
        go_upto_if 77 with fail
        go_cut [13] from 77 to 87 (fun x wx => ∃ s, x = .string s ∧ wo = wx)
        case first =>
          cases t with
          | false =>
            go_wp2
            go_meet
            case rel => exact ⟨_, rfl, rfl⟩
          | true =>
            have hl0 := ht rfl
            have hae := ha hl0
            clear ha
            subst hae
            obtain ⟨ix, hix⟩ : ∃ ix : Nat, pk / 2 % len = ix := ⟨_, rfl⟩
            have hixl : ix < len := by rw [← hix]; exact Nat.mod_lt _ hl0
            have hixm : (pk : Int) / 2 % (len : Int) = (ix : Int) := by rw [← hix]; simp
            have hbb : b < w.heap.size := World.block_lt_of_cell? _ _ (hc0 ix hixl)
            have e0 : wo.cell? ⟨b, off + ix * 3, none⟩ = some (.string (nm ix)) := by rw [hS1.hb.cell (p := ⟨b, off + ix * 3, none⟩) hbb]; exact hc0 ix hixl
            clear hix
            go_wp2
            go_meet
            case rel => exact ⟨_, rfl, rfl⟩
        case rest =>
          obtain ⟨s, rfl, rfl⟩ := hcut
          clear ht
          have hc0' : ∀ j, j < len → wo.cell? ⟨b, off + j * 3, none⟩ = some (.string (nm j)) := fun j hj => by rw [hS1.hb.cell (p := ⟨b, off + j * 3, none⟩) (World.block_lt_of_cell? _ _ (hc0 j hj))]; exact hc0 j hj
          have t1 : wo.cell? ⟨w.heap.size + 1 + 1, 1, none⟩ = some (.map (some (w.heap.size + 1))) := (hS1.hT.cell 1).trans rfl
          have hln := hS1.hM.lenRun Ybaf.underlying25 3
          obtain ⟨L, hL⟩ : ∃ L, (procs nm (w.heap.size + 1 + 1 + 1 + 1) len).length = L := ⟨_, rfl⟩
          have hL2 : L ≤ 1024 := by rw [← hL]; have := procs_len nm (w.heap.size + 1 + 1 + 1 + 1) len; omega
          rw [hL] at hln
          have HL : Hid ((procs nm (w.heap.size + 1 + 1 + 1 + 1) len).length = L) := hL
          clear hL
          go_upto_region 17 with (go_at_call 4; refine (last_any nm s a b off len cap _ ha hlen hc0').mono ?_; rintro e w1 ⟨rfl, hw1⟩; subst w1)
          clear hc0'
          go_cut [14, 16, 17] from 96 to 102 (fun x14 x16 x17 wx => ∃ z : Int, x14 = .int .i64 z ∧ Back wo wx w.heap.size len nm lf n s z x16 x17)
          case first =>
            have hFo : F.answers wo.tape := by rw [hS1.hb.tape]; exact hF
            rcases procs_get nm (w.heap.size + 1 + 1 + 1 + 1) s len with ⟨h1, h2, h3⟩ | ⟨i, hi, h2, h3, h4⟩
            · have H1 : Hid (lastTo nm s len = -1) := h1
              clear h1
              go_wp2_with fail
              refine (actor_new _ s n _ _ wo t1 hS1.hM h3).mono ?_
              rintro e w1 ⟨rfl, hm, hs⟩
              go_wp2
              go_meet
              case rel => exact ⟨_, rfl, Or.inr (Or.inr ⟨H1.out, h2, rfl, rfl, hm, hs⟩)⟩
            · have H2 : Hid (lastTo nm s len = (i : Int)) := h2
              have H3 : Hid (nm i = s) := h3
              clear h2 h3
              have hpc := (hS1.hS i hi).cell 2
              by_cases hl0 : lf i = 0
              · go_wp2_with fail
                refine (actor_ok _ s n _ _ _ wo t1 hS1.hM h4 (hpc.trans (by simp [proc5, hl0]))).mono ?_
                rintro e w1 ⟨rfl, rfl⟩
                go_wp2
                go_meet
                case rel => exact ⟨_, rfl, Or.inl ⟨i, hi, H2.out, H3.out, hl0, rfl, rfl, rfl⟩⟩
              · go_wp2_with fail
                refine (actor_left F _ s n (lf i) _ _ _ wo hFo t1 hS1.hM h4 (hpc.trans rfl) (by simpa using hl0)).mono ?_
                rintro e w1 ⟨k0, rfl, hbel⟩
                go_wp2
                go_meet
                case rel => exact ⟨_, rfl, Or.inr (Or.inl ⟨i, k0, hi, H2.out, H3.out, hl0, rfl, rfl, hbel⟩)⟩
          case rest =>
            obtain ⟨z, rfl, hB⟩ := hcut
            go_upto_if 104 with fail
            go_cut [14, 15] from 103 to 193 (fun _ _ wx => Fin w wx w.heap.size len nm nd lf)
            case first =>
              have hnq := run_neq29
              have hnm := run_neq32
              have hz3 := hS1.hz
              have HZ : Hid (wo.heap.size = w.heap.size + 1 + 1 + 1 + 1 + len) := hz3
              have hzl : w.heap.size + 1 + 1 + 1 + 1 ≤ wo.heap.size := by omega
              clear hz3
              rcases hB with ⟨i, hi, rfl, h3, h0, rfl, rfl, hwx⟩ | ⟨i, k0, hi, rfl, h3, h0, rfl, rfl, hbel⟩ | ⟨rfl, hall, rfl, rfl, hm, hs⟩
              · subst wc
                have hae := ha (by omega)
                subst hae
                have hbb : b < w.heap.size := World.block_lt_of_cell? _ _ (hc0 i hi)
                have e1 : wo.cell? ⟨b, off + i * 3 + 1, none⟩ = some (.int .i64 0) := by rw [hS1.hb.cell (p := ⟨b, off + i * 3 + 1, none⟩) hbb, hc1 i hi, h0]
                have q1 : wo.cell? ⟨w.heap.size + 1 + 1 + 1, i, none⟩ = some (.pointer (some ⟨w.heap.size + 1 + 1 + 1 + 1 + i, 0, none⟩)) := by rw [hS1.hQ.cell i, mix_get _ _ _ _ _ hi, if_pos hi]; rfl
                have H0 : Hid (nm i = s ∧ lf i = 0) := ⟨h3, h0⟩
                clear h3 h0
                go_wp2
                go_meet
                case rel => exact ⟨hS1.hT, ⟨_, hS1.hM, fun _ _ => rfl⟩, hS1.hQ, hS1.hS, hS1.hb⟩
              · have hae := ha (by omega)
                subst hae
                have hbb : b < w.heap.size := World.block_lt_of_cell? _ _ (hc0 i hi)
                have hBw : Below w.heap.size w wc := hS1.hb.trans (hbel.mono (by omega))
                have hMc : MapB wc (w.heap.size + 1) (procs nm (w.heap.size + 1 + 1 + 1 + 1) len) := hS1.hM.keep (hbel.block _ hS1.hM.lt)
                have hln2 := hMc.lenRun Ybaf.underlying25 3
                rw [HL.out] at hln2
                have t1c : wc.cell? ⟨w.heap.size + 1 + 1, 1, none⟩ = some (.map (some (w.heap.size + 1))) := by rw [hbel.cell (p := ⟨w.heap.size + 1 + 1, 1, none⟩) (by show w.heap.size + 1 + 1 < _; omega)]; exact t1
                have e1 : wc.cell? ⟨b, off + i * 3 + 1, none⟩ = some (.int .i64 (lf i)) := by rw [hBw.cell (p := ⟨b, off + i * 3 + 1, none⟩) hbb, hc1 i hi]
                have q1 : wc.cell? ⟨w.heap.size + 1 + 1 + 1, i, none⟩ = some (.pointer (some ⟨w.heap.size + 1 + 1 + 1 + 1 + i, 0, none⟩)) := by
                  rw [hbel.cell (p := ⟨w.heap.size + 1 + 1 + 1, i, none⟩) (by show w.heap.size + 1 + 1 + 1 < _; omega), hS1.hQ.cell i, mix_get _ _ _ _ _ hi, if_pos hi]; rfl
                have hlb : (lf i != 0) = true := by simpa using h0
                have H0 : Hid (nm i = s ∧ lf i ≠ 0) := ⟨h3, h0⟩
                clear h3 h0 t1 hln
                go_wp2
                go_meet
                case rel =>
                  exact ⟨hS1.hT.keep (hbel.block _ hS1.hT.lt), ⟨_, hMc, fun _ _ => rfl⟩, hS1.hQ.keep (hbel.block _ hS1.hQ.lt), fun j hj => (hS1.hS j hj).keep (hbel.block _ (hS1.hS j hj).lt), hBw⟩
              · have hBo : Below wo.heap.size wo (wo.alloc (.cells #[.string s, .int .i64 n, .int .i64 0, .pointer none, .map none] 34)) := (Below.refl _ _).alloc (Nat.le_refl _) _
                have kb : ∀ k, k < wo.heap.size → k ≠ w.heap.size + 1 → wc.heap[k]? = wo.heap[k]? := fun k hk hne => (hs.block k hne).trans (hBo.block k hk)
                have hnone : mget (procs nm (w.heap.size + 1 + 1 + 1 + 1) len) s = none := by
                  rcases procs_get nm (w.heap.size + 1 + 1 + 1 + 1) s len with ⟨_, _, h⟩ | ⟨i, hi, _, h, _⟩
                  · exact h
                  · exact absurd h (hall i hi)
                have hln2 := hm.lenRun Ybaf.underlying25 3
                rw [mput_len, hnone, HL.out] at hln2
                have hln3 : (Builtin.len_ #[25] 3 #[.map (some (w.heap.size + 1))]).run Ybaf.prog wc = .ok (.int .i64 ((L : Int) + 1)) wc := hln2
                have hlk := hm.lookup Ybaf.underlying25 Ybaf.underlying9 (zero29 wc) s
                rw [mget_mput, if_pos rfl] at hlk
                have hP : Blk wc wo.heap.size 34 (proc5 s n 0) := (Blk.made (w := wo) (e := 34) #[.string s, .int .i64 n, .int .i64 0, .pointer none, .map none]).keep (hs.block _ (by omega))
                have p0 : wc.cell? ⟨wo.heap.size, 0, none⟩ = some (.string s) := (hP.cell 0).trans rfl
                have p1 : wc.cell? ⟨wo.heap.size, 1, none⟩ = some (.int .i64 n) := (hP.cell 1).trans rfl
                have p2 : wc.cell? ⟨wo.heap.size, 2, none⟩ = some (.int .i64 0) := (hP.cell 2).trans rfl
                have p3 : wc.cell? ⟨wo.heap.size, 3, none⟩ = some (.pointer none) := (hP.cell 3).trans rfl
                have p4 : wc.cell? ⟨wo.heap.size, 4, none⟩ = some (.map none) := (hP.cell 4).trans rfl
                have hTc := hS1.hT.keep (w' := wc) (kb _ hS1.hT.lt (by omega))
                have t1c : wc.cell? ⟨w.heap.size + 1 + 1, 1, none⟩ = some (.map (some (w.heap.size + 1))) := (hTc.cell 1).trans rfl
                clear t1 hln hln2 hnone
                go_wp2
                go_meet
                case rel =>
                  refine ⟨hTc, ⟨_, hm, fun i hi => by rw [mget_mput, if_neg (hall i hi)]⟩, hS1.hQ.keep (kb _ hS1.hQ.lt (by omega)), fun j hj => (hS1.hS j hj).keep (kb _ (hS1.hS j hj).lt (by omega)), ?_⟩
                  exact ⟨hs.os.trans (hBo.os.trans hS1.hb.os), hs.tape.trans (hBo.tape.trans hS1.hb.tape), hs.output.trans (hBo.output.trans hS1.hb.output), by rw [hs.size]; exact Nat.le_trans hS1.hb.size hBo.size, fun k hk => (kb k (by omega) (by omega)).trans (hS1.hb.block k hk)⟩
            case rest =>
              obtain ⟨hT, ⟨l, hM, hML⟩, hQ, hP, hBw⟩ := hcut
              clear hB hS1 HL hln t1 hF hL2
              have t1 : wc.cell? ⟨w.heap.size + 1 + 1, 1, none⟩ = some (.map (some (w.heap.size + 1))) := (hT.cell 1).trans rfl
              go_wp2
              go_loopg [196] len (fun gk i wj => ∃ k : Nat, k + gk = len ∧ i = .int .i64 (k : Int) ∧ ∃ d, wj = wc.drewN d)
              case atStart => exact ⟨0, by omega, rfl, 0, rfl⟩
              case round =>
                obtain ⟨k, hk, rfl, d, rfl⟩ := hrel
                have HK : Hid (k + gk = len) := hk
                have hkl : k ≤ len := by omega
                clear hk
                by_cases hlt : k < len
                · have hae := ha (by omega)
                  clear ha
                  subst hae
                  have hbb : b < w.heap.size := World.block_lt_of_cell? _ _ (hc0 k hlt)
                  have hcw : ∀ d j, j < len → (wc.drewN d).cell? ⟨b, off + j * 3, none⟩ = some (.string (nm j)) := fun d j hj => by
                    show wc.cell? ⟨b, off + j * 3, none⟩ = _
                    rw [hBw.cell (p := ⟨b, off + j * 3, none⟩) hbb]; exact hc0 j hj
                  have e0 : wc.cell? ⟨b, off + k * 3, none⟩ = some (.string (nm k)) := hcw 0 k hlt
                  have e1 : wc.cell? ⟨b, off + k * 3 + 1, none⟩ = some (.int .i64 (lf k)) := by rw [hBw.cell (p := ⟨b, off + k * 3 + 1, none⟩) hbb]; exact hc1 k hlt
                  have e2 : wc.cell? ⟨b, off + k * 3 + 2, none⟩ = some (.int .i64 (nd k)) := by rw [hBw.cell (p := ⟨b, off + k * 3 + 2, none⟩) hbb]; exact hc2 k hlt
                  obtain ⟨i, hi, h2, h4⟩ : ∃ i : Nat, i < len ∧ lastTo nm (nm k) len = (i : Int) ∧ mget l (nm k) = some (.pointer (some ⟨w.heap.size + 1 + 1 + 1 + 1 + i, 0, none⟩)) := by
                    rcases procs_get nm (w.heap.size + 1 + 1 + 1 + 1) (nm k) len with ⟨_, h, _⟩ | ⟨i, hi, h2, _, h4⟩
                    · exact absurd rfl (h k hlt)
                    · exact ⟨i, hi, h2, (hML k hlt).trans h4⟩
                  have hlk : ∀ d, (Instr.lookup 25 (.map (some (w.heap.size + 1))) (.string (nm k)) false).run Ybaf.prog (wc.drewN d) = .ok (.pointer (some ⟨w.heap.size + 1 + 1 + 1 + 1 + i, 0, none⟩)) (wc.drewN d) := fun d => by
                    have hMd : MapB (wc.drewN d) (w.heap.size + 1) l := hM
                    have := hMd.lookup Ybaf.underlying25 Ybaf.underlying9 (zero29 _) (nm k)
                    rw [h4] at this
                    exact this
                  have q1 : wc.cell? ⟨w.heap.size + 1 + 1 + 1, i, none⟩ = some (.pointer (some ⟨w.heap.size + 1 + 1 + 1 + 1 + i, 0, none⟩)) := by rw [hQ.cell i, mix_get _ _ _ _ _ hi, if_pos hi]; rfl
                  have q2 : wc.cell? ⟨w.heap.size + 1 + 1 + 1, k, none⟩ = some (.pointer (some ⟨w.heap.size + 1 + 1 + 1 + 1 + k, 0, none⟩)) := by rw [hQ.cell k, mix_get _ _ _ _ _ hlt, if_pos hlt]; rfl
                  have hPk := hP k hlt
                  have p0 : wc.cell? ⟨w.heap.size + 1 + 1 + 1 + 1 + k, 0, none⟩ = some (.string (nm k)) := (hPk.cell 0).trans rfl
                  have p1 : wc.cell? ⟨w.heap.size + 1 + 1 + 1 + 1 + k, 1, none⟩ = some (.int .i64 (nd k)) := (hPk.cell 1).trans rfl
                  have p2 : wc.cell? ⟨w.heap.size + 1 + 1 + 1 + 1 + k, 2, none⟩ = some (.int .i64 (lf k)) := (hPk.cell 2).trans rfl
                  have p3 : wc.cell? ⟨w.heap.size + 1 + 1 + 1 + 1 + k, 3, none⟩ = some (.pointer none) := (hPk.cell 3).trans rfl
                  have p4 : wc.cell? ⟨w.heap.size + 1 + 1 + 1 + 1 + k, 4, none⟩ = some (.map none) := (hPk.cell 4).trans rfl
                  have hnq := run_neq29
                  have hnm := run_neq32
                  clear hML hM hQ hP hPk h4 hc0 hc1 hc2 hT
                  go_wp2_with (go_at_call 4; refine (last_any nm (nm k) (some ⟨b, off, none⟩) b off len cap _ (fun _ => rfl) hlen (by exact hcw _)).mono ?_; rintro e w1 ⟨rfl, hw1⟩; subst w1)
                  clear hcw
                  go_quiet (fail)
                  go_wp2
                  go_quiet (fail)
                  go_wp2
                  go_roundg (len - (k + 1))
                  case measure => have := HK.out; omega
                  case rel => exact ⟨k + 1, by omega, by go_num, _, rfl⟩
                · go_wp2
                  go_ret
                  exact ⟨rfl, below_drewN hBw d⟩
end Go.Proofs.YbulkcfxgFmt
