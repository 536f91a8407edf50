/-
  The walk of zzs4099abuild.
-/
import Derived.Test.YbulkcfweBuild
namespace Go.Proofs.Ybulkcfwe
open Go.RowKit

/-- The drawn ends. -/
structure ArgE (w : World) (a : Option Addr) (b off len : Nat) (xs : List E) : Prop where
  ad : 0 < len → a = some ⟨b, off, none⟩
  ln : xs.length = len
  c0 : ∀ j, j < len → w.cell? ⟨b, off + j * 2, none⟩ = some (.int .i64 (at' xs j))
  c1 : ∀ j, j < len → w.cell? ⟨b, off + j * 2 + 1, none⟩ = some (.int .i64 (pr' xs j))
def extra (seed i : Nat) : E := ((((i * 7919 + seed) % 1000 : Nat) : Int) - 500, ((i % 5 : Nat) : Int))
def allOf (xs : List E) (ex seed : Nat) : List E := xs ++ (List.range (ex % 400)).map (extra seed)

theorem take_snoc (xs : List E) (k : Nat) (hk : k < xs.length) : xs.take k ++ [(at' xs k, pr' xs k)] = xs.take (k + 1) := by
  rw [List.take_add_one, List.getElem?_eq_getElem hk]
  have : (at' xs k, pr' xs k) = xs[k] := by
    have := getD_pair xs k
    rw [← this, List.getD_eq_getElem?_getD, List.getElem?_eq_getElem hk]; rfl
  rw [this]; rfl
theorem extra_snoc (xs : List E) (seed k : Nat) : (xs ++ (List.range k).map (extra seed)) ++ [extra seed k] = xs ++ (List.range (k + 1)).map (extra seed) := by
  rw [List.range_succ, List.map_append, List.append_assoc]; rfl

set_option maxRecDepth 100000 in
set_option maxHeartbeats 2000000 in
theorem build_any (aE : Option Addr) (bE off n cE ex seed : Nat) (xs : List E) (w : World) (hA : ArgE w aE bE off n xs) (hn : n ≤ 1024) (hex : ex ≤ 65535) (hseed : seed ≤ 4294967295) :
    Calls Yba.prog 5 #[.slice aE n cE, .int .u16 (ex : Int), .int .u32 (seed : Int)] w fun r w' => ∃ va, r = .returned (.tuple #[.pointer (some ⟨w.heap.size, 0, none⟩), va]) ∧ Built w w' w.heap.size (allOf xs ex seed) (allOf xs ex seed) va := by
  go_enter Yba.func5, Yba.ntmps5
  go_wp2
  have hB0 : Built w (w.alloc (.cells #[.slice none 0 0, .bool false] 34)) w.heap.size (xs.take 0) (xs.take 0) (.slice none 0 0) := by
    refine ⟨⟨.slice none 0 0, [], false, ⟨Blk.made (w := w) (e := 34) #[.slice none 0 0, .bool false], World.ownsRow_nil _ _ _ _, by omega, by simp⟩, List.Perm.refl _, (fun i hi => by simp at hi), rfl, (fun k hk => by simp [Value.ownBlock] at hk)⟩, World.ownsRow_nil _ _ _ _, (Below.refl _ _).alloc (Nat.le_refl _) _⟩
  generalize (w.alloc (.cells #[.slice none 0 0, .bool false] 34)) = w1 at *
  obtain ⟨bh, hbh⟩ : ∃ bh, bh = w.heap.size := ⟨_, rfl⟩
  rw [← hbh] at hB0 ⊢
  have HBH : Hid (bh = w.heap.size) := hbh
  clear hbh
  go_loopg [9, 10] n (fun gk s i wr => ∃ (k : Nat) (va : Value), k + gk = n ∧ i = .int .i64 (k : Int) ∧ va = s ∧ Built w wr bh (xs.take k) (xs.take k) va)
  case atStart => exact ⟨0, _, by omega, rfl, rfl, hB0⟩
  case round =>
    obtain ⟨k, va, hk, rfl, rfl, hB⟩ := hrel
    have HK : Hid (k + gk = n) := hk
    have hkl : k ≤ n := by omega
    clear hk hB0
    by_cases hlt : k < n
    · have hln := hA.ln
      have ha := hA.ad (by omega)
      have q0 := hA.c0 k hlt
      have q1 := hA.c1 k hlt
      have hbb : Below w.heap.size w wr := by rw [← HBH.out]; exact hB.bl
      have q0' := cell_later hbb q0
      have q1' := cell_later hbb q1
      have lb : bE < wr.heap.size := World.block_lt_of_cell? _ _ q0'
      clear q0 q1 hbb
      subst ha
      obtain ⟨e1, he1⟩ : ∃ e1, e1 = at' xs k := ⟨_, rfl⟩
      obtain ⟨e2, he2⟩ : ∃ e2, e2 = pr' xs k := ⟨_, rfl⟩
      rw [← he1] at q0'
      rw [← he2] at q1'
      have HE : Hid (xs.take k ++ [(e1, e2)] = xs.take (k + 1)) := by show _ = _; rw [he1, he2]; exact take_snoc xs k (by omega)
      clear he1 he2
      have hkI : (k : Int) < (n : Int) := by omega
      go_upto_region 6 with fail
      go_cut [11] from 24 to 34 (fun x wx => x = .pointer (some ⟨wr.heap.size, 0, none⟩) ∧ Kept wr.heap.size (fun _ => False) wr wx ∧ Blk wx wr.heap.size 31 [.int .i64 e1, .int .i64 e2])
      case first =>
        go_region
        all_goals go_wp2
        all_goals go_meet
        all_goals exact ⟨rfl, ((Kept.refl _ _ _).alloc (Nat.le_refl _) _).drew, Blk.made (w := wr) (e := 31) #[.int .i64 e1, .int .i64 e2]⟩
      case rest =>
        obtain ⟨rfl, hK1, hx1⟩ := hcut
        obtain ⟨w2, rfl⟩ : ∃ w2 : World, w2 = wc := ⟨_, rfl⟩
        obtain ⟨bx, hbx⟩ : ∃ bx, bx = wr.heap.size := ⟨_, rfl⟩
        rw [← hbx] at hx1 ⊢
        have hpc := hB.push (e1, e2) (by rw [List.length_take]; omega) hK1 hx1 hbx
        have HP : Hid (Calls Yba.prog 9 #[.pointer (some ⟨bh, 0, none⟩), .agg #[.int .i64 e1, .int .i64 e2]] w2 fun r w' => r = .returned (.tuple #[]) ∧ Built w w' bh ((e1, e2) :: xs.take k) (xs.take k) va ∧ Blk w' bx 31 [.int .i64 e1, .int .i64 e2]) := hpc
        have x0 : w2.cell? ⟨bx, 0, none⟩ = some (.int .i64 e1) := (hx1.cell 0).trans rfl
        have x1 : w2.cell? ⟨bx, 1, none⟩ = some (.int .i64 e2) := (hx1.cell 1).trans rfl
        clear hpc hK1 hx1 hbx q0' q1' lb hB
        go_wp2_with fail
        refine HP.out.mono ?_
        rintro _ w3 ⟨rfl, hB3, hx3⟩
        clear x0 x1 HP
        have x0 : w3.cell? ⟨bx, 0, none⟩ = some (.int .i64 e1) := (hx3.cell 0).trans rfl
        have x1 : w3.cell? ⟨bx, 1, none⟩ = some (.int .i64 e2) := (hx3.cell 1).trans rfl
        have hbs := hB3.base
        have hva := World.ownsRow.lt hB3.ra
        have hown : Hid ((w3.alloc (.cells #[.int .i64 e1, .int .i64 e2] 31)).ownsRow (bh + 1) 31 2 va (xs.take k).length (flat (xs.take k))) := own_keep hB3.ra (fun g hg => Below.heap_alloc _ _ _ (hva g hg).2)
        have hbc : Hid (∀ j u, (enc (e1, e2))[j]? = some u → (w3.alloc (.cells #[.int .i64 e1, .int .i64 e2] 31)).cell? ((⟨w3.heap.size, 0, none⟩ : Addr).add j) = some u) := box_cells w3 (e1, e2)
        clear hva
        go_wp2_with (at_builtin; refine wpList_app rfl (.tmp 38) (.tmp 40) rfl (bh + 1) va (xs.take k) (e1, e2) rfl hown.out ⟨w3.heap.size, 0, none⟩ 1 rfl hbc.out (by rw [List.length_take]; omega) (by simp; omega) ?_)
        intro g cap w4 hrow hgrow hw
        have hB4 := hB3.app hrow hgrow (hw.imp id (fun h => by simpa using h))
        rw [HE.out] at hB4
        have hlt4 : (xs.take k).length = k := by rw [List.length_take]; omega
        rw [hlt4] at hB4
        clear hrow hgrow hw hB3 hx3 x0 x1 hown hbc hlt4
        go_wp2
        go_roundg (n - (k + 1))
        case measure => have := HK.out; omega
        case rel => exact ⟨k + 1, _, by omega, by go_num, rfl, hB4⟩
    · have hkn : n = k := by omega
      subst hkn
      have htk : xs.take n = xs := List.take_of_length_le (by rw [hA.ln]; exact Nat.le_refl _)
      rw [htk] at hB
      obtain ⟨m, hm⟩ : ∃ m, ex % 400 = m := ⟨_, rfl⟩
      have hmI : (ex : Int) % 400 = (m : Int) := by omega
      have hm400 : m < 400 := by omega
      have HM : Hid (ex % 400 = m) := hm
      have hln : xs.length ≤ 1024 := by rw [hA.ln]; exact hn
      have hB1 : Built w wr bh (xs ++ (List.range 0).map (extra seed)) (xs ++ (List.range 0).map (extra seed)) va := by simpa using hB
      clear hm hB HK hkl hlt
      go_wp2
      clear hmI
      go_loopg [9, 13] m (fun gk s i wr => ∃ (k : Nat) (va : Value), k + gk = m ∧ i = .int .i64 (k : Int) ∧ va = s ∧ Built w wr bh (xs ++ (List.range k).map (extra seed)) (xs ++ (List.range k).map (extra seed)) va)
      case atStart => exact ⟨0, _, by omega, rfl, rfl, hB1⟩
      case round =>
        obtain ⟨k, va, hk, rfl, rfl, hB⟩ := hrel
        have HK : Hid (k + gk = m) := hk
        have hkl : k ≤ m := by omega
        clear hk hB1
        by_cases hlt : k < m
        · obtain ⟨q, hq⟩ : ∃ q, (k * 7919 + seed) % 1000 = q := ⟨_, rfl⟩
          obtain ⟨r, hr⟩ : ∃ r, k % 5 = r := ⟨_, rfl⟩
          have hqI : ((k : Int) * 7919 + (seed : Int)) % 1000 = (q : Int) := by omega
          have hrI : (k : Int) % 5 = (r : Int) := by omega
          have hq1 : q < 1000 := by omega
          have hr5 : r < 5 := by omega
          have HE : Hid (extra seed k = ((q : Int) - 500, (r : Int))) := by show extra seed k = _; unfold extra; rw [hq, hr]
          clear hq hr
          have hlen : (xs ++ (List.range k).map (extra seed)).length = xs.length + k := by simp
          have hpc := hB.push ((q : Int) - 500, (r : Int)) (by omega) ((Kept.refl _ (fun _ => False) wr).alloc (Nat.le_refl _) (.cells #[.int .i64 ((q : Int) - 500), .int .i64 (r : Int)] 31)) (Blk.made (w := wr) (e := 31) #[.int .i64 ((q : Int) - 500), .int .i64 (r : Int)]) rfl
          have HP : Hid (Calls Yba.prog 9 #[.pointer (some ⟨bh, 0, none⟩), .agg #[.int .i64 ((q : Int) - 500), .int .i64 (r : Int)]] (wr.alloc (.cells #[.int .i64 ((q : Int) - 500), .int .i64 (r : Int)] 31)) fun r' w' => r' = .returned (.tuple #[]) ∧ Built w w' bh (((q : Int) - 500, (r : Int)) :: (xs ++ (List.range k).map (extra seed))) (xs ++ (List.range k).map (extra seed)) va ∧ Blk w' wr.heap.size 31 [.int .i64 ((q : Int) - 500), .int .i64 (r : Int)]) := hpc
          have HLEN : Hid ((xs ++ (List.range k).map (extra seed)).length = xs.length + k) := hlen
          clear hpc hB hlen
          go_wp2_with fail
          refine HP.out.mono ?_
          rintro _ w3 ⟨rfl, hB3, hx3⟩
          clear HP
          obtain ⟨bx, hbx⟩ : ∃ bx, bx = wr.heap.size := ⟨_, rfl⟩
          rw [← hbx] at hx3 ⊢
          clear hbx
          have x0 : w3.cell? ⟨bx, 0, none⟩ = some (.int .i64 ((q : Int) - 500)) := (hx3.cell 0).trans rfl
          have x1 : w3.cell? ⟨bx, 1, none⟩ = some (.int .i64 (r : Int)) := (hx3.cell 1).trans rfl
          have hbs := hB3.base
          have hva := World.ownsRow.lt hB3.ra
          obtain ⟨A, hAA⟩ : ∃ A, A = xs ++ (List.range k).map (extra seed) := ⟨_, rfl⟩
          have HAA : Hid (A = xs ++ (List.range k).map (extra seed)) := hAA
          rw [← hAA] at hB3 HLEN
          clear hAA
          have hown : Hid ((w3.alloc (.cells #[.int .i64 ((q : Int) - 500), .int .i64 (r : Int)] 31)).ownsRow (bh + 1) 31 2 va A.length (flat A)) := own_keep hB3.ra (fun g hg => Below.heap_alloc _ _ _ (hva g hg).2)
          have hbc : Hid (∀ j u, (enc ((q : Int) - 500, (r : Int)))[j]? = some u → (w3.alloc (.cells #[.int .i64 ((q : Int) - 500), .int .i64 (r : Int)] 31)).cell? ((⟨w3.heap.size, 0, none⟩ : Addr).add j) = some u) := box_cells w3 ((q : Int) - 500, (r : Int))
          clear hva
          have hAl : A.length ≤ 1424 := by have := HLEN.out; omega
          go_wp2_with (at_builtin; refine wpList_app rfl (.tmp 66) (.tmp 68) rfl (bh + 1) va A ((q : Int) - 500, (r : Int)) rfl hown.out ⟨w3.heap.size, 0, none⟩ 1 rfl hbc.out (by omega) (by simp; omega) ?_)
          intro g cap w4 hrow hgrow hw
          have hB4 := hB3.app hrow hgrow (hw.imp id (fun h => by simpa using h))
          have hsn : A ++ [((q : Int) - 500, (r : Int))] = xs ++ (List.range (k + 1)).map (extra seed) := by rw [HAA.out, ← HE.out, extra_snoc]
          rw [hsn] at hB4
          clear hrow hgrow hw hB3 hx3 x0 x1 hown hbc hsn
          go_wp2
          go_roundg (m - (k + 1))
          case measure => have := HK.out; omega
          case rel => exact ⟨k + 1, _, by omega, by go_num, rfl, hB4⟩
        · have hkm : m = k := by omega
          subst hkm
          go_wp2
          go_ret2
          refine ⟨va, by rw [← HBH.out]; rfl, ?_⟩
          rw [← HBH.out]
          unfold allOf
          rw [HM.out]
          exact hB
end Go.Proofs.Ybulkcfwe
