/-
  The contracts of the small functions on the road: fmt.Errorf at this format; the last entry of a name.
-/
import Derived.Test.YbulkcfxgFmtFacts
import Derived.Test.YbulkcfxgFmtMap
import Derived.Deep.RegionWith
import Derived.Deep.QuietTactic
import Derived.Deep.LoopGhost
import Derived.Deep.DeepCutAuto
import Derived.BigQuiet
namespace Go.Proofs.YbulkcfxgFmt
open Go.RowKit Go.Extern.Stop Go.Stop Go.Extern

set_option maxHeartbeats 400000 in
theorem errorf_any (F : Interp) (s : ByteArray) (c : Int) (blk : Nat) (w : World) (hF : F.answers w.tape)
    (hc0 : w.cell? ⟨blk, 0, none⟩ = some (.iface 9 (.string s))) (hc1 : w.cell? ⟨blk, 1, none⟩ = some (.iface 3 (.int .i64 c))) :
    Calls Ybaf.prog 7 #[.string ⟨#[37, 113, 32, 97, 99, 116, 115, 32, 97, 102, 116, 101, 114, 32, 105, 116, 32, 108, 101, 102, 116, 32, 111, 110, 32, 108, 105, 110, 101, 32, 37, 100]⟩, .slice (some ⟨blk, 0, none⟩) 2 2] w fun e w' =>
      e = .returned (.iface 46 (.pointer (some ⟨w.heap.size, 0, none⟩))) ∧ Below w.heap.size w w' := by
  have hF' := answers_open hF
  go_enter Ybaf.func7, Ybaf.ntmps7
  go_wp2
  go_ret
  exact ⟨rfl, ((Below.refl _ _).alloc (Nat.le_refl _) _).drew⟩

/-- The last of the first k entries that bears the name s; -1 where none does. -/
def lastTo (nm : Nat → ByteArray) (s : ByteArray) : Nat → Int
  | 0 => -1
  | k + 1 => if nm k = s then (k : Int) else lastTo nm s k

theorem str_eq {a b : ByteArray} (h : (a.toList == b.toList) = true) : a = b := (MapKept.bytes_beq a b).1 (by rw [beq_toListBytes]; exact h)
theorem str_ne {a b : ByteArray} (h : (a.toList == b.toList) = false) : a ≠ b := fun e => by
  rw [← beq_toListBytes, (MapKept.bytes_beq a b).2 e] at h; cases h

set_option maxHeartbeats 400000 in
theorem last_any (nm : Nat → ByteArray) (s : ByteArray) (a : Option Addr) (b off len cap : Nat) (w : World) (ha : 0 < len → a = some ⟨b, off, none⟩) (hlen : len ≤ 1024)
    (hc : ∀ j, j < len → w.cell? ⟨b, off + j * 3, none⟩ = some (.string (nm j))) :
    Calls Ybaf.prog 4 #[.slice a len cap, .string s] w fun e w' => e = .returned (.int .i64 (lastTo nm s len)) ∧ w' = w := by
  go_enter Ybaf.func4, Ybaf.ntmps4
  go_wp2
  go_loop [5, 9] (fun x i => ∃ k : Nat, k ≤ len ∧ i = .int .i64 (k : Int) ∧ x = .int .i64 (lastTo nm s k)) (fun _ i => len - (intOf i).toNat)
  case atStart => exact ⟨0, Nat.zero_le _, rfl, rfl⟩
  case round =>
    obtain ⟨k, hk, rfl, rfl⟩ := hrel
    by_cases hlt : k < len
    · have hae := ha (by omega)
      clear ha
      subst hae
      have hck := hc k hlt
      clear hc
      go_wp2
      · have h := str_eq ‹((nm k).toList == s.toList) = true›
        go_round
        case rel => exact ⟨k + 1, by omega, by go_num, by rw [lastTo, if_pos h]⟩
        case measure => simp [intOf]; omega
      · have h := str_ne ‹((nm k).toList == s.toList) = false›
        go_round
        case rel => exact ⟨k + 1, by omega, by go_num, by rw [lastTo, if_neg h]⟩
        case measure => simp [intOf]; omega
    · go_wp2
      go_ret
      have e : k = len := by omega
      rw [e]
      exact ⟨rfl, rfl⟩

theorem zero29 (w : World) : (zeroValue 29).run Ybaf.prog w = .ok (.pointer none) w := by kernel_rfl

set_option maxHeartbeats 400000 in
theorem process_old (l : List (ByteArray × Value)) (s : ByteArray) (n : Int) (bt bm pb : Nat) (w : World) (h1 : w.cell? ⟨bt, 1, none⟩ = some (.map (some bm))) (hm : MapB w bm l) (hg : mget l s = some (.pointer (some ⟨pb, 0, none⟩))) :
    Calls Ybaf.prog 6 #[.pointer (some ⟨bt, 0, none⟩), .int .i64 n, .string s] w fun e w' => e = .returned (.pointer (some ⟨pb, 0, none⟩)) ∧ w' = w := by
  have hl := hm.lookup Ybaf.underlying25 Ybaf.underlying9 (zero29 w) s
  rw [hg] at hl
  clear hm
  go_enter Ybaf.func6, Ybaf.ntmps6
  go_wp2
  go_ret
  exact ⟨rfl, rfl⟩

set_option maxHeartbeats 400000 in
theorem process_new (l : List (ByteArray × Value)) (s : ByteArray) (n : Int) (bt bm : Nat) (w : World) (h1 : w.cell? ⟨bt, 1, none⟩ = some (.map (some bm))) (hm : MapB w bm l) (hg : mget l s = none) :
    Calls Ybaf.prog 6 #[.pointer (some ⟨bt, 0, none⟩), .int .i64 n, .string s] w fun e w' => e = .returned (.pointer (some ⟨w.heap.size, 0, none⟩)) ∧
      MapB w' bm (mput l s (.pointer (some ⟨w.heap.size, 0, none⟩))) ∧ Stored bm (w.alloc (.cells #[.string s, .int .i64 n, .int .i64 0, .pointer none, .map none] 34)) w' := by
  have hl := hm.lookup Ybaf.underlying25 Ybaf.underlying9 (zero29 w) s
  rw [hg] at hl
  have hm1 : MapB (w.alloc (.cells #[.string s, .int .i64 n, .int .i64 0, .pointer none, .map none] 34)) bm l := hm.keep (Below.heap_alloc w _ bm hm.lt)
  obtain ⟨w2, hu, hm2, hs2⟩ := hm1.update Ybaf.underlying25 Ybaf.underlying9 s (.pointer (some ⟨w.heap.size, 0, none⟩))
  have hbt : bt < w.heap.size := World.block_lt_of_cell? _ _ h1
  clear hm hm1
  go_enter Ybaf.func6, Ybaf.ntmps6
  go_wp2
  go_ret
  exact ⟨rfl, hm2, hs2⟩

set_option maxHeartbeats 400000 in
theorem actor_ok (l : List (ByteArray × Value)) (s : ByteArray) (n : Int) (bt bm pb : Nat) (w : World) (h1 : w.cell? ⟨bt, 1, none⟩ = some (.map (some bm))) (hm : MapB w bm l) (hg : mget l s = some (.pointer (some ⟨pb, 0, none⟩)))
    (hleft : w.cell? ⟨pb, 2, none⟩ = some (.int .i64 0)) :
    Calls Ybaf.prog 5 #[.pointer (some ⟨bt, 0, none⟩), .int .i64 n, .string s] w fun e w' => e = .returned (.tuple #[.pointer (some ⟨pb, 0, none⟩), .nilIface]) ∧ w' = w := by
  go_enter Ybaf.func5, Ybaf.ntmps5
  go_wp2_with fail
  refine (process_old l s n bt bm pb w h1 hm hg).mono ?_
  rintro e w1 ⟨rfl, rfl⟩
  go_wp2
  go_ret2
  exact ⟨rfl, rfl⟩

set_option maxHeartbeats 400000 in
theorem actor_left (F : Interp) (l : List (ByteArray × Value)) (s : ByteArray) (n x : Int) (bt bm pb : Nat) (w : World) (hF : F.answers w.tape) (h1 : w.cell? ⟨bt, 1, none⟩ = some (.map (some bm))) (hm : MapB w bm l) (hg : mget l s = some (.pointer (some ⟨pb, 0, none⟩)))
    (hleft : w.cell? ⟨pb, 2, none⟩ = some (.int .i64 x)) (hx : (x != 0) = true) :
    Calls Ybaf.prog 5 #[.pointer (some ⟨bt, 0, none⟩), .int .i64 n, .string s] w fun e w' => ∃ k, e = .returned (.tuple #[.pointer none, .iface 46 (.pointer (some ⟨k, 0, none⟩))]) ∧ Below w.heap.size w w' := by
  have hpb : pb < w.heap.size := World.block_lt_of_cell? _ _ hleft
  go_enter Ybaf.func5, Ybaf.ntmps5
  go_wp2_with fail
  refine (process_old l s n bt bm pb w h1 hm hg).mono ?_
  rintro e w1 ⟨rfl, hw1⟩
  subst hw1
  go_wp2_with (go_at_call 7; refine (errorf_any F s x _ _ (by exact hF) (by go_simp) (by go_simp)).mono ?_; rintro e w' ⟨rfl, hbel⟩)
  go_ret2
  exact ⟨_, rfl, ((Below.refl _ _).alloc (Nat.le_refl _) _).trans (hbel.mono (by simp))⟩

set_option maxHeartbeats 400000 in
theorem actor_new (l : List (ByteArray × Value)) (s : ByteArray) (n : Int) (bt bm : Nat) (w : World) (h1 : w.cell? ⟨bt, 1, none⟩ = some (.map (some bm))) (hm : MapB w bm l) (hg : mget l s = none) :
    Calls Ybaf.prog 5 #[.pointer (some ⟨bt, 0, none⟩), .int .i64 n, .string s] w fun e w' => e = .returned (.tuple #[.pointer (some ⟨w.heap.size, 0, none⟩), .nilIface]) ∧
      MapB w' bm (mput l s (.pointer (some ⟨w.heap.size, 0, none⟩))) ∧ Stored bm (w.alloc (.cells #[.string s, .int .i64 n, .int .i64 0, .pointer none, .map none] 34)) w' := by
  go_enter Ybaf.func5, Ybaf.ntmps5
  go_wp2_with fail
  refine (process_new l s n bt bm w h1 hm hg).mono ?_
  rintro e w1 ⟨rfl, hm1, hs1⟩
  have hlt := hm.lt
  have hleft : w1.cell? ⟨w.heap.size, 2, none⟩ = some (.int .i64 0) := by
    have h2 := World.cell?_of_block (w := w.alloc (.cells #[.string s, .int .i64 n, .int .i64 0, .pointer none, .map none] 34)) (w' := w1) (a := ⟨w.heap.size, 2, none⟩) (hs1.block w.heap.size (by omega))
    rw [h2, (Blk.made (w := w) (e := 34) #[.string s, .int .i64 n, .int .i64 0, .pointer none, .map none]).cell 2]; rfl
  clear hm
  go_wp2
  go_ret2
  exact ⟨rfl, hm1, hs1⟩

end Go.Proofs.YbulkcfxgFmt
