/-
  slices.Clone at ends; the contract of zzs4099asame.
-/
import Derived.Test.YbulkcfweInv
import Derived.Laws.StructEq
import Derived.Shelf.SlSortCmp.NoneTotal
namespace Go.Proofs.Ybulkcfwe
open Go.RowKit

set_option maxHeartbeats 400000 in
theorem clone_some (base b cap : Nat) (l : List E) (w : World) (hr : Row w base b cap l) (hn : l.length ≤ 2000) :
    Calls Yba.prog 11 #[.slice (some ⟨b, 0, none⟩) l.length cap] w fun e w' => ∃ g cap', e = .returned (.slice (some ⟨g, 0, none⟩) l.length cap') ∧ Row w' w.heap.size g cap' l ∧ Below w.heap.size w w' := by
  obtain ⟨i0, hi, hz0, hz1, hz2⟩ := info_parts info31
  have hnil := fun (w : World) (a : Option Addr) (n c : Nat) => Lib.run_eql_slice_nil (P := Yba.prog) w 26 31 a n c 0 0 Yba.underlying26
  have hown0 : (w.alloc (.cells #[] 31)).ownsRow w.heap.size 31 2 (.slice (some ⟨w.heap.size, 0, none⟩) 0 0) 0 [] := ⟨rfl, Or.inr ⟨w.heap.size, 0, #[], rfl, Nat.le_refl _, heap_alloc_new w _, Nat.le_refl _, by unfold maxLen; omega, rfl, rfl⟩⟩
  have hcc : ∀ j u, (flat l)[j]? = some u → (w.alloc (.cells #[] 31)).cell? ((⟨b, 0, none⟩ : Addr).add j) = some u := by
    intro j u hj
    rw [show ((⟨b, 0, none⟩ : Addr).add j) = ⟨b, j, none⟩ from by unfold Addr.add; split <;> simp_all]
    have hbl := (Below.refl w.heap.size w).alloc (Nat.le_refl _) (.cells #[] 31)
    rw [hbl.cell (p := ⟨b, j, none⟩) hr.lt.2]
    have hjl : j < l.length * 2 := by rw [← flat_length]; exact (List.getElem?_eq_some_iff.1 hj).1
    rw [World.ownsRow.cellAt hr j (by omega)]
    exact hj
  have hfl := flat_length l
  have hf1 := flat_one l
  have HR : Hid (b < w.heap.size) := hr.lt.2
  clear hr
  obtain ⟨xs, hxs⟩ : ∃ xs, xs = flat l := ⟨_, rfl⟩
  rw [← hxs] at hfl hf1 hcc
  obtain ⟨n, hnl⟩ : ∃ n, n = l.length := ⟨_, rfl⟩
  rw [← hnl] at hfl hn ⊢
  have HX : Hid (xs = flat l ∧ n = l.length) := ⟨hxs, hnl⟩
  clear hxs hnl
  go_enter Yba.func11, Yba.ntmps11
  go_wp2_with (at_builtin; refine wpList_append_own _ rfl (.tmp 5) (.tmp 6) 26 rfl w.heap.size 31 i0 _ 2 16 Yba.underlying26 hi hz0 hz1 hz2 rfl (by decide) _ 0 [] rfl hown0 ⟨b, 0, none⟩ n cap xs rfl (by omega) hcc hf1 (by unfold maxLen; omega) (by omega) (by simp) ?_)
  intro v' w1 hown' hgrow hne
  obtain ⟨g, cap', hv⟩ : ∃ g cap', v' = .slice (some ⟨g, 0, none⟩) n cap' := by
    rcases hown'.2 with ⟨h, _⟩ | ⟨g, cap', _, hv, _⟩
    · exact absurd h hne
    · exact ⟨g, cap', hv⟩
  rw [hv]
  rw [hv] at hown'
  clear hv hne hnil hcc
  go_wp2
  go_ret
  refine ⟨g, cap', rfl, ?_, ((Below.refl _ _).alloc (Nat.le_refl _) _).grown hgrow (by simp) (fun k hk => by simp [Value.ownBlock] at hk; omega)⟩
  unfold Row
  rw [← HX.out.1, ← HX.out.2]
  exact hown'

theorem clone_nil (w : World) : Calls Yba.prog 11 #[.slice none 0 0] w fun e w' => e = .returned (.slice none 0 0) ∧ w' = w := by
  have hnil := fun (w : World) (a : Option Addr) (n c : Nat) => Lib.run_eql_slice_nil (P := Yba.prog) w 26 31 a n c 0 0 Yba.underlying26
  go_enter Yba.func11, Yba.ntmps11
  go_wp2
  go_ret
  exact ⟨rfl, rfl⟩

/-- A clone, whatever is cloned. -/
theorem clone_any (base : Nat) (v : Value) (l : List E) (w : World) (hr : w.ownsRow base 31 2 v l.length (flat l)) (hn : l.length ≤ 2000) :
    Calls Yba.prog 11 #[v] w fun e w' => ∃ v', e = .returned v' ∧ w'.ownsRow w.heap.size 31 2 v' l.length (flat l) ∧ Below w.heap.size w w' := by
  rcases hr.2 with ⟨h1, h2⟩ | ⟨g, cap, cur, h1, h3⟩
  · subst h1
    refine (clone_nil w).mono ?_
    rintro e w' ⟨rfl, rfl⟩
    exact ⟨_, rfl, ⟨hr.1, Or.inl ⟨rfl, h2⟩⟩, Below.refl _ _⟩
  · subst h1
    refine (clone_some base g cap l w hr hn).mono ?_
    rintro e w' ⟨g', cap', rfl, h4, h5⟩
    exact ⟨_, rfl, h4, h5⟩

theorem eg13 : ∀ args w, (callFunc 13 args).run Yba.prog w = .ok (.enter 13 args) w := enters_of Yba.func13 (by kernel_rfl) rfl

/-- The sort by zzs4099acmp, whatever is sorted. -/
theorem sort_val (base : Nat) (v : Value) (l : List E) (w : World) (hr : w.ownsRow base 31 2 v l.length (flat l)) (hn : l.length ≤ 2000) :
    Calls Yba.prog 12 #[v, .func (.func 13) #[] #[]] w fun e w' => e = .returned (.tuple #[]) ∧ ∃ l' : List E, l'.length = l.length ∧ l'.Perm l ∧ Go.Sort.SortedIn (ltOf cfL) 0 l'.length l'.toArray ∧ w'.ownsRow base 31 2 v l'.length (flat l') ∧ Kept w.heap.size (fun x => v.ownBlock = some x) w w' := by
  rcases hr.2 with ⟨h1, h2⟩ | ⟨g, cap, cur, h1, h3⟩
  · subst h1
    have hcon := AnyF.slices_SortFunc_none Yba.sortEnd none 0 (.func (.func 13) #[] #[]) w
    change Calls Yba.prog 12 #[.slice none 0 0, .func (.func 13) #[] #[]] w _ at hcon
    refine hcon.mono ?_
    rintro e w' ⟨rfl, rfl⟩
    have hnil : l = [] := List.eq_nil_of_length_eq_zero h2
    subst hnil
    exact ⟨rfl, [], rfl, List.Perm.refl _, (fun i j _ _ hj => by simp at hj), World.ownsRow_nil _ _ _ _, Kept.refl _ _ _⟩
  · subst h1
    refine (sort_any 13 cfL swoL eg13 cmp13 base g cap l w hr hn).mono ?_
    rintro e w' ⟨rfl, l', h4, h5, h6, h7, h8⟩
    refine ⟨rfl, l', h4, h5, h6, ?_, h8.mono (Nat.le_refl _) (fun k hk => by rw [hk]; rfl)⟩
    have := own_row h7
    rw [h4] at this ⊢
    exact this

theorem own_shape {w : World} {base : Nat} {v : Value} {l : List E} (hr0 : w.ownsRow base 31 2 v l.length (flat l)) : ∃ ad cap, v = .slice ad l.length cap ∧ (0 < l.length → ∃ g, ad = some ⟨g, 0, none⟩ ∧ Row w base g cap l) := by
  rcases hr0.2 with ⟨h1, h2⟩ | ⟨g, cap, cur, h1, _⟩
  · exact ⟨none, 0, by rw [h1, h2], fun h => by omega⟩
  · subst h1
    exact ⟨some ⟨g, 0, none⟩, cap, rfl, fun _ => ⟨g, rfl, hr0⟩⟩

set_option maxRecDepth 100000 in
set_option maxHeartbeats 2000000 in
theorem same_any (base : Nat) (v1 v2 : Value) (l1 l2 : List E) (w : World) (h1 : w.ownsRow base 31 2 v1 l1.length (flat l1)) (h2 : w.ownsRow base 31 2 v2 l2.length (flat l2)) (hp : l1.Perm l2) (hl : l1.length ≤ 2000) :
    Calls Yba.prog 7 #[v1, v2] w fun r w' => r = .returned (.bool true) ∧ Below w.heap.size w w' := by
  have hlen := hp.length_eq
  have b1 := World.ownsRow.lt h1
  have b2 := World.ownsRow.lt h2
  have hc1 := clone_any base v1 l1 w h1 hl
  have HC1 : Hid (Calls Yba.prog 11 #[v1] w fun e w' => ∃ v', e = .returned v' ∧ w'.ownsRow w.heap.size 31 2 v' l1.length (flat l1) ∧ Below w.heap.size w w') := hc1
  obtain ⟨ad1, cp1, rfl, _⟩ := own_shape h1
  obtain ⟨ad2, cp2, rfl, _⟩ := own_shape h2
  rw [← hlen] at h2 b2 ⊢
  obtain ⟨n, hn⟩ : ∃ n, n = l1.length := ⟨_, rfl⟩
  have HN : Hid (n = l1.length ∧ l1.length = l2.length) := ⟨hn, hlen⟩
  rw [← hn] at h1 h2 b1 b2 HC1 hl ⊢
  clear hc1 hn hlen
  go_enter Yba.func7, Yba.ntmps7
  go_wp2_with fail
  refine HC1.out.mono ?_
  rintro _ wA ⟨va, rfl, hoa, hba⟩
  have h2A : wA.ownsRow base 31 2 (.slice ad2 n cp2) l2.length (flat l2) := own_keep (by rw [← HN.out.2, ← HN.out.1]; exact h2) (fun g hg => hba.block g (b2 g hg).2)
  have hc2 := clone_any base (.slice ad2 n cp2) l2 wA h2A (by rw [← HN.out.2, ← HN.out.1]; exact hl)
  have HC2 : Hid (Calls Yba.prog 11 #[.slice ad2 n cp2] wA fun e w' => ∃ v', e = .returned v' ∧ w'.ownsRow wA.heap.size 31 2 v' l2.length (flat l2) ∧ Below wA.heap.size wA w') := hc2
  clear hc2 HC1 h1 h2 h2A
  go_wp2_with fail
  refine HC2.out.mono ?_
  rintro _ wB ⟨vb, rfl, hob, hbb⟩
  have blA := World.ownsRow.lt hoa
  have blB := World.ownsRow.lt hob
  have hoa2 : wB.ownsRow w.heap.size 31 2 va l1.length (flat l1) := own_keep (by rw [← HN.out.1]; exact hoa) (fun g hg => hbb.block g (blA g hg).2)
  have hs1 := sort_val w.heap.size va l1 wB hoa2 (by rw [← HN.out.1]; exact hl)
  have HS1 : Hid (Calls Yba.prog 12 #[va, .func (.func 13) #[] #[]] wB fun e w' => e = .returned (.tuple #[]) ∧ ∃ l' : List E, l'.length = l1.length ∧ l'.Perm l1 ∧ Go.Sort.SortedIn (ltOf cfL) 0 l'.length l'.toArray ∧ w'.ownsRow w.heap.size 31 2 va l'.length (flat l') ∧ Kept wB.heap.size (fun x => va.ownBlock = some x) wB w') := hs1
  clear hs1 HC2 hoa
  go_wp2_with fail
  refine HS1.out.mono ?_
  rintro _ wC ⟨rfl, m1, hm1, hq1, ho1, hoC, hKC⟩
  have hob2 : wC.ownsRow wA.heap.size 31 2 vb l2.length (flat l2) := own_keep hob (fun g hg => hKC.block g (blB g hg).2 (fun h => by have := (blA g h).2; have := (blB g hg).1; omega))
  have hs2 := sort_val wA.heap.size vb l2 wC hob2 (by rw [← HN.out.2, ← HN.out.1]; exact hl)
  have HS2 : Hid (Calls Yba.prog 12 #[vb, .func (.func 13) #[] #[]] wC fun e w' => e = .returned (.tuple #[]) ∧ ∃ l' : List E, l'.length = l2.length ∧ l'.Perm l2 ∧ Go.Sort.SortedIn (ltOf cfL) 0 l'.length l'.toArray ∧ w'.ownsRow wA.heap.size 31 2 vb l'.length (flat l') ∧ Kept wC.heap.size (fun x => vb.ownBlock = some x) wC w') := hs2
  clear hs2 HS1 hob hoa2
  go_wp2_with fail
  refine HS2.out.mono ?_
  rintro _ wD ⟨rfl, m2, hm2, hq2, ho2, hoD, hKD⟩
  have hmm : m1 = m2 := sortedL ho1 ho2 (hq1.trans (hp.trans hq2.symm))
  subst hmm
  have hoC2 : wD.ownsRow w.heap.size 31 2 va m1.length (flat m1) := own_keep hoC (fun g hg => hKD.block g (by have := (blA g hg).2; have := hKC.size; have := hbb.size; omega) (fun h => by have := (blA g hg).2; have := (blB g h).1; omega))
  have hfin : Below w.heap.size w wD := by
    have s1 := hba.size
    have s2 := hbb.size
    have s3 := hKC.size
    have f1 : Below w.heap.size wA wB := ⟨hbb.os, hbb.tape, hbb.output, hbb.size, fun k hk => hbb.block k (by omega)⟩
    have f2 : Below w.heap.size wB wC := hKC.below (by omega) (fun k hk => (blA k hk).1)
    have f3 : Below w.heap.size wC wD := hKD.below (by omega) (fun k hk => by have := (blB k hk).1; omega)
    exact ((hba.trans f1).trans f2).trans f3
  obtain ⟨ada, cpa, rfl, hra⟩ := own_shape hoC2
  obtain ⟨adb, cpb, rfl, hrb⟩ := own_shape hoD
  have hml : m1.length = n := by rw [hm1, ← HN.out.1]
  clear HS2 hoC hob2 hoD hoC2 ho1 ho2 hq1 hq2 hKC hKD hba hbb blA blB hm1 hm2
  obtain ⟨N, hN⟩ : ∃ N, N = m1.length := ⟨_, rfl⟩
  rw [← hN] at hra hrb ⊢
  have hNl : N ≤ 2000 := by omega
  have HNN : Hid (N = m1.length) := hN
  clear hN hml
  go_wp2
  go_loopg [7] N (fun gk i wr => ∃ k : Nat, k + gk = N ∧ i = .int .i64 (k : Int) ∧ ∃ d, wr = wD.drewN d)
  case atStart => exact ⟨0, by omega, rfl, 0, rfl⟩
  case round =>
    obtain ⟨k, hk, rfl, d, rfl⟩ := hrel
    have HK : Hid (k + gk = N) := hk
    have hkl : k ≤ N := by omega
    clear hk
    by_cases hlt : k < N
    · obtain ⟨ga, rfl, hRa⟩ := hra (by omega)
      obtain ⟨gb, rfl, hRb⟩ := hrb (by omega)
      have a0 := hRa.c0 k (by have := HNN.out; omega)
      have a1 := hRa.c1 k (by have := HNN.out; omega)
      have b0 := hRb.c0 k (by have := HNN.out; omega)
      have b1' := hRb.c1 k (by have := HNN.out; omega)
      have hkI : (k : Int) < (N : Int) := by omega
      clear hra hrb hRa hRb
      go_upto_region 10 with fail
      go_quiet (fail)
      go_wp2
      go_roundg (N - (k + 1))
      case measure => have := HK.out; omega
      case rel => exact ⟨k + 1, by omega, by go_num, _, rfl⟩
    · have hltd : decide ((k : Int) < (N : Int)) = false := by simp; omega
      clear hra hrb
      go_wp2
      go_ret
      exact ⟨rfl, hfin.os, hfin.tape, hfin.output, hfin.size, hfin.block⟩

#print axioms same_any
end Go.Proofs.Ybulkcfwe
